/-
  The small functions of laws.FnNamesOfTokens, walked: within, impl.IsIdent. The law laws.FnNamesOfTokens, walked: a token is an identifier of a name if its text is the name, but for the case of letters. The law laws.FnNamesOfTokens returns true at every input: a token is an identifier of a name if it is one whose text is the name, but for the case of letters; it is like the name alone, if it is not quoted, too. Conditions: of each, in its statement.
-/
import Derived.Test.YtaamolahbkgofaaGreatDoorK31
import Derived.Test.YtaamolahbkgofaaGreatDoorK06
import Derived.Test.YtaamolahbkgofaaGreatDoorK32
import Derived.Test.YtaamolahbkgofaaGreatDoorTie
import Derived.Test.YtaamolahbkgofaaGreatDoorCards
import Derived.SevenTiedAt
set_option linter.unusedVariables false
set_option linter.unusedSimpArgs false
namespace Go.Proofs.YtaamolahbkgofaaGreatDoor.lex
open Go.RowKit mem lines plain
/-- A text has a backquote. -/
def tickB (s:ByteArray):Bool:=s.data.toList.contains 96
theorem tick_one {s:ByteArray} {k:Nat} (hk:k<s.size):((s.extract k (k+1)).toList==[96])=(s[k]==96):=by
 rw [one_byte s k hk]
 simp
theorem tick_yes {s:ByteArray} {k:Nat} (hk:k<s.size) (h:((s.extract k (k+1)).toList==[96])=true):tickB s=true:=by
 rw [tick_one hk,beq_iff_eq] at h
 rw [tickB,List.contains_iff_mem,←h]
 exact List.getElem_mem (l:=s.data.toList) (by simpa using hk)
theorem tick_no {s:ByteArray} (h:∀j (hj:j<s.size),((s.extract j (j+1)).toList==[96])=false):tickB s=false:=by
 rw [tickB,Bool.eq_false_iff]
 intro hc
 have hm:=List.contains_iff_mem.1 hc
 obtain ⟨j,hj,e⟩:=List.getElem_of_mem hm
 have hj':j<s.size:=by simpa using hj
 have:=h j hj'
 rw [tick_one hj'] at this
 have e2:s[j]=96:=e
 rw [e2] at this
 cases this
set_option maxRecDepth 100000 in
theorem tick_any (s:ByteArray) (w:World) (hs:s.size≤1000000):Calls Tryz.prog 22 #[.string s,.string ⟨#[96]⟩] w fun e w'=>e=.returned (.bool (tickB s))∧w=w':=by
 have Y:=Lib.hid (fun k h1 h2=>tick_yes (s:=s) (k:=k) h1 h2)
 have N:=Lib.hid (fun h=>tick_no (s:=s) h)
 go_enter Tryz.func22,Tryz.ntmps22
 go_wp2_with fail
 go_loop [5] (fun i=>∃k:Nat,k≤s.size∧i=.int .i64 k∧Hid (∀j (hj:j<s.size),j<k→((s.extract j (j+1)).toList==[96])=false)) (fun i=>s.size-(intOf i).toNat)
 case atStart=>exact ⟨0,Nat.zero_le _,rfl,fun j _ h1=>absurd h1 (by omega)⟩
 case round =>
  obtain ⟨k,hk,rfl,H⟩:=hrel
  by_cases hlt:k<s.size
  ·have e1:(k:Int)+1≤(s.size:Int):=by omega
   go_wp2_with fail
   ·go_ret
    exact ⟨ret_bool (Y.out k hlt (by assumption)).symm,rfl⟩
   ·have h8:((s.extract k (k+1)).toList==[96])=false:=by assumption
    go_round
    case rel=>exact ⟨k+1,by omega,by go_num,fun j hj h1=>if e:j=k then by subst e;exact h8 else H.out j hj (by omega)⟩
    case measure=>simp [intOf];omega
  ·have e1:¬(k:Int)+1≤(s.size:Int):=by omega
   go_wp2_with fail
   go_ret
   exact ⟨ret_bool (N.out fun j hj=>H.out j hj (by omega)).symm,rfl⟩
end Go.Proofs.YtaamolahbkgofaaGreatDoor.lex
namespace Go.Proofs.YtaamolahbkgofaaGreatDoor.lx
open lex
/-- A token's text is no longer than the token. -/
def TextO:Out→Prop
 | .tok _ len text _ _=>text.length≤len
 | _=>True
theorem number_text (np:Bool) (t:Bs):TextO (number np t):=by
 unfold number
 exact ite_P (fun _=>ite_P (fun _=>trivial) fun _=>trivial) fun _=>ite_P (fun _=>Nat.zero_le _) fun _=>Nat.zero_le _
theorem word_text (np:Bool) (t:Bs):TextO (word np t):=by
 unfold word
 refine ite_P (fun _=>ite_P (fun _=>Nat.zero_le _) fun _=>?_) fun _=>ite_P (fun _=>trivial) fun _=>trivial
 show (t.take (idLen t)).length≤idLen t
 rw [List.length_take]
 omega
theorem sign2_text (t:Bs) (c:UInt8):∀ds:Bs,TextO (sign2 t c ds)
 | []=>Nat.zero_le _
 | d::ds=>by
  unfold sign2
  exact ite_P (fun _=>Nat.zero_le _) fun _=>sign2_text t c ds
theorem ofQ_text {np:Bool} {t:Bs} {k q:Bs} {raw uni idn:Bool} {i:Nat} (hq:q.length≤(t.drop i).length):TextO (ofQ k i (quoted q raw uni idn np (t.drop i))):=by
 cases hr:quoted q raw uni idn np (t.drop i) with
 | ok len c =>
  obtain ⟨j,a1,a2,a3,a4,a5,a6⟩:=quoted_ok hq hr
  show c.length≤i+len
  omega
 | bad len=>trivial
 | fault=>trivial
 | crash=>trivial
theorem token_text (np:Bool) (last:Bs):∀t:Bs,TextO (token np last t)
 | []=>Nat.zero_le _
 | c::r=>by
  rw [token_eq]
  refine ite_P (fun _=>Nat.zero_le _) fun _=>?_
  refine ite_P (fun _=>ite_P (fun _=>number_text np _) fun _=>Nat.zero_le _) fun _=>?_
  refine ite_P (fun _=>sign2_text _ _ _) fun _=>?_
  refine ite_P (fun _=>sign2_text _ _ _) fun _=>?_
  refine ite_P (fun _=>sign2_text _ _ _) fun _=>?_
  refine ite_P (fun _=>sign2_text _ _ _) fun _=>?_
  refine ite_P (fun _=>sign2_text _ _ _) fun _=>?_
  refine ite_P (fun _=>sign2_text _ _ _) fun _=>?_
  refine ite_P (fun _=>sign2_text _ _ _) fun _=>?_
  refine ite_P (fun _=>ite_P (fun _=>Nat.zero_le _) fun _=>ite_P (fun _=>?_) fun _=>Nat.zero_le _) fun _=>?_
  ·show (r.take (idLen r)).length≤1+idLen r
   rw [List.length_take]
   omega
  refine ite_P (fun _=>ofQ_text (i:=0) (by simp)) fun _=>?_
  refine ite_P (fun _=>number_text np _) fun _=>?_
  refine ite_P (fun _=>?_) fun _=>word_text np _
  cases hp:prefx 3 false false (c::r) with
  | none=>exact word_text np _
  | some x =>
   obtain ⟨by_,ra,i⟩:=x
   obtain ⟨d,r',e,hd⟩:=prefx_quote 3 false false (c::r) _ hp
   exact ofQ_text (delim_le (by rw [e];simp)).2
theorem next_text {np:Bool} {p:Nat} {last:Bs} {dot:Bool} {t:Bs} {k:Tk} {d:Bool} (h:nextTok np p last dot t=.tok k d):k.text.length≤k.fin-k.pos:=by
 unfold nextTok at h
 cases hs:(ahead t).2 with
 | none =>
  rw [hs] at h
  simp only at h
  split at h
  ·cases h;exact Nat.zero_le _
  ·cases h
 | some a =>
  rw [hs] at h
  simp only at h
  have hg:TextO (own np last dot (t.drop (comsLen (ahead t).1+a))):=by
   unfold own
   refine ite_P (fun _=>?_) fun _=>token_text np last _
   unfold field
   refine ite_P (fun _=>?_) fun _=>token_text np last _
   show (List.take (idLen _) _).length≤idLen _
   rw [List.length_take]
   omega
  cases ho:own np last dot (t.drop (comsLen (ahead t).1+a)) with
  | fault=>rw [ho] at h;cases h
  | crash=>rw [ho] at h;cases h
  | bad len=>rw [ho] at h;cases h;exact Nat.zero_le _
  | tok kk len text base d0 =>
   rw [ho] at h hg
   cases h
   have hg':text.length≤len:=hg
   show text.length≤p+_+a+len-(p+_+a)
   omega
theorem toks_text (s:Bs) (i:Nat) (h:i<(toks false s).1.length):(toks false s).1[i].text.length≤s.length:=by
 obtain ⟨dot',d,h1,_,hp⟩:=(toks_steps false s).get (fun e=>by cases e) i h
 have h2:=next_text h1
 have h3:=(next_ok hp h1).le
 omega
end Go.Proofs.YtaamolahbkgofaaGreatDoor.lx
namespace Go.Proofs.YtaamolahbkgofaaGreatDoor.lex
open Go.RowKit mem lines plain
/-- The kind of an identifier. -/
def isIdentB (K:ByteArray):Bool:=K.toList==[60,105,100,101,110,116,62]
set_option maxRecDepth 100000 in
theorem tokIdent_any {w:World} {g:Nat} {K T n:ByteArray} (hK:w.cell? ⟨g,0,none⟩=some (.string K)) (hT:w.cell? ⟨g,4,none⟩=some (.string T)) (hs:T.size≤maxLen) :
  Calls Tryz.prog 37 #[.pointer (some ⟨g,0,none⟩),.string n] w fun e w'=>e=.returned (.bool (isIdentB K&&texts.foldB T n))∧∃n,w'=w.drewN n:=by
 cases hk:isIdentB K with
 | true =>
  have hk1:(K.toList==[60,105,100,101,110,116,62])=true:=hk
  go_enter Tryz.func37,Tryz.ntmps37
  go_wp2_with (go_at_call 53;refine (texts.fold_any T n _ hs).mono ?_;rintro e w' ⟨rfl,m,rfl⟩)
  go_ret
  exact ⟨rfl,_,rfl⟩
 | false =>
  have hk1:(K.toList==[60,105,100,101,110,116,62])=false:=hk
  go_enter Tryz.func37,Tryz.ntmps37
  go_wp2_with fail
  go_ret
  exact ⟨rfl,0,rfl⟩
set_option maxRecDepth 100000 in
theorem tokLike_any {w:World} {g:Nat} {K R n:ByteArray} (hK:w.cell? ⟨g,0,none⟩=some (.string K)) (hR:w.cell? ⟨g,3,none⟩=some (.string R)) (hs:R.size≤maxLen) :
  Calls Tryz.prog 38 #[.pointer (some ⟨g,0,none⟩),.string n] w fun e w'=>e=.returned (.bool (isIdentB K&&texts.foldB R n))∧∃n,w'=w.drewN n:=by
 cases hk:isIdentB K with
 | true =>
  have hk1:(K.toList==[60,105,100,101,110,116,62])=true:=hk
  go_enter Tryz.func38,Tryz.ntmps38
  go_wp2_with (go_at_call 53;refine (texts.fold_any R n _ hs).mono ?_;rintro e w' ⟨rfl,m,rfl⟩)
  go_ret
  exact ⟨rfl,_,rfl⟩
 | false =>
  have hk1:(K.toList==[60,105,100,101,110,116,62])=false:=hk
  go_enter Tryz.func38,Tryz.ntmps38
  go_wp2_with fail
  go_ret
  exact ⟨rfl,0,rfl⟩
set_option maxHeartbeats 1000000 in
set_option maxRecDepth 100000 in
theorem isIdent_any {w:World} {K S R T n:ByteArray} {B P F:Int} {cb:Option Addr} {cn cc:Nat} (hT:T.size≤maxLen) (hR:R.size≤maxLen) :
  Calls Tryz.prog 23 #[.agg #[.string K,.string S,.string R,.string T,.int .i64 B,.int .i64 P,.int .i64 F,.slice cb cn cc],.string n] w fun e w'=>e=.returned (.tuple #[.bool (isIdentB K&&texts.foldB T n),.bool (isIdentB K&&texts.foldB R n)])∧Below w.heap.size w w':=by
 go_enter Tryz.func23,Tryz.ntmps23
 go_wp2_with (first
  | (go_at_call 37;refine (tokIdent_any (K:=K) (T:=T) (by simp) (by simp) hT).mono ?_;rintro e w' ⟨rfl,m,rfl⟩)
  | (go_at_call 38;refine (tokLike_any (K:=K) (R:=R) (by simp) (by simp) hR).mono ?_;rintro e w' ⟨rfl,m2,rfl⟩))
 refine bodyPost_ret (v:=.tuple #[.bool (isIdentB K&&texts.foldB T n),.bool (isIdentB K&&texts.foldB R n)]) (by simp [results,Tryz.results23,go_sem]) rfl ⟨rfl,below_drewN (((Below.refl _ _).alloc (Nat.le_refl _) _).alloc (by simp) _) _⟩
end Go.Proofs.YtaamolahbkgofaaGreatDoor.lex
set_option linter.unusedVariables false
set_option linter.unusedSimpArgs false
namespace Go.Proofs.YtaamolahbkgofaaGreatDoor.lex
open Go.RowKit mem lines plain
theorem up_96 {c:UInt8} (h:up c=96):c=96:=by
  have key:∀c:UInt8,up c=96→c=96:=all_bytes (by decide +kernel)
  exact key c h
/-- A token whose bytes are a name's has the name for its text: where the name has no backquote, or is a case variant of the text. -/
theorem like_text {k:lx.Tk} {field:Prop} {N:ByteArray} (hf:lx.FormP k.kind k.raw k.text k.base field) (hk:k.kind=lx.kIdent) (hN:tickB N=false∨N.data.toList.length=k.text.length) (h:upper k.raw=upper N.data.toList):upper k.text=upper N.data.toList:=by
  cases hf with
  | eof h1=>rw [h1] at hk;exact absurd hk (by decide)
  | quote h1 h2 h3 h4 h5 h6 h7 =>
    exfalso
    have hl:=congrArg List.length h
    simp only [upper,List.length_map] at hl
    rcases hN with hN|hN
    · cases hr:k.raw with
      | nil=>rw [hr] at h2;cases h2
      | cons c r =>
        rw [hr] at h2 h
        have hc:c=96:=by simpa using h2
        cases hn:N.data.toList with
        | nil=>rw [hn] at h;cases h
        | cons d m =>
          rw [hn] at h
          simp only [upper,List.map_cons] at h
          injection h with e1 _
          rw [hc] at e1
          have hd:d=96:=up_96 e1.symm
          rw [tickB,hn,hd] at hN
          simp at hN
    · omega
  | name h1 h2=>rw [h2];exact h
  | param h1=>rw [h1] at hk;exact absurd hk (by decide)
  | int10 h1=>rw [h1] at hk;exact absurd hk (by decide)
  | int16 h1=>rw [h1] at hk;exact absurd hk (by decide)
  | float h1=>rw [h1] at hk;exact absurd hk (by decide)
  | str h1=>rcases h1 with h1|h1 <;> rw [h1] at hk <;> exact absurd hk (by decide)
  | kw h1 h2 _ _ h5=>rw [hk] at h5;exact absurd h5 (by decide)
  | sign h1 _ _ h4=>rw [←h1,hk] at h4;exact absurd h4 (by decide)
set_option maxHeartbeats 4000000 in
set_option maxRecDepth 100000 in
theorem names_in {w:World} {s name:ByteArray} {n:Nat} {m:Int} (hs:s.size+name.size≤16384) (hn:n≤255) (hm0:0≤m) (hm1:m≤18446744073709551615) (hb:brittleB s=false) (ha:texts.asciiB name=true) (hq:tickB name=false) (hT:Lib0 w) :
    Calls Tryz.prog 8 #[.string s,.int .u8 (n:Int),.string name,.int .u64 m] w (Yes w):=by
  have h1:(s.size:Int)+(name.size:Int)≤16384:=by omega
  have h2:(n:Int)≤255:=by omega
  have HL:=Lib.hid (lex_any (w:=w) (s:=s) (by omega) hT (lx.toks_fine false (sound_of hb)).1)
  have HT:=Lib.hid hT
  have HF:=Lib.hid (fun i h=>lx.toks_form s.data.toList i h)
  have HG:=Lib.hid (fun i h=>((lx.toks_steps false s.data.toList).fact i h).1.bad rfl)
  have HP:=Lib.hid (fun i h=>(lx.toks_steps false s.data.toList).place i h)
  have HTX:=Lib.hid (fun i h=>lx.toks_text s.data.toList i h)
  have HL1:=Lib.hid (lx.toks_length false s.data.toList)
  clear hT
  by_cases hl0:(lx.toks false s.data.toList).1.length=0
  · have HZ:=Lib.hid hl0
    clear hl0
    go_enter Tryz.func8,Tryz.ntmps8
    go_wp2_with (first|(go_at_call 10;refine (brittle_any s _ (by omega)).mono ?_;rintro e w' ⟨rfl,rfl⟩;rw [hb])|(go_at_call 21;refine (texts.ascii_any name _ (by unfold maxLen;omega)).mono ?_;rintro e w' ⟨rfl,rfl⟩;rw [ha])|(go_at_call 22;refine (tick_any name _ (by omega)).mono ?_;rintro e w' ⟨rfl,rfl⟩;rw [hq])|(go_at_call 11;refine (lexes_any (HT.out.below HB1.out)).mono ?_;rintro e w2 ⟨rfl,hb2⟩;have HB2:=Lib.hid hb2;clear hb2)|(go_at_call 12;refine HL.out.mono ?_;rintro e w1 ⟨v,z,rfl,ht,hb1⟩;have HB1:=Lib.hid hb1;obtain ⟨b,cap,rfl,hv⟩:=ht.view;clear hb1 ht hv;rw [HZ.out]))
    go_ret
    exact ⟨rfl,HB1.out.trans (HB2.out.mono HB1.out.size)⟩
  have HZ:=Lib.hid (Nat.pos_of_ne_zero hl0)
  clear hl0
  go_enter Tryz.func8,Tryz.ntmps8
  go_wp2_with (first|(go_at_call 10;refine (brittle_any s _ (by omega)).mono ?_;rintro e w' ⟨rfl,rfl⟩;rw [hb])|(go_at_call 21;refine (texts.ascii_any name _ (by unfold maxLen;omega)).mono ?_;rintro e w' ⟨rfl,rfl⟩;rw [ha])|(go_at_call 22;refine (tick_any name _ (by omega)).mono ?_;rintro e w' ⟨rfl,rfl⟩;rw [hq]))
  refine HL.out.mono ?_
  rintro e w1 ⟨v,z,rfl,ht,hb1⟩
  have HB1:=Lib.hid hb1
  obtain ⟨b,cap,rfl,hv⟩:=ht.view
  have HV:=Lib.hid hv
  clear hb1 ht hv
  generalize lx.toks false s.data.toList=r at *
  obtain ⟨l,en⟩:=r
  simp only at HF HP HG HV HL1 HZ HTX ⊢
  have hn1:l.length≤16385:=by have:=HL1.out;simp at this;omega
  obtain ⟨i,hi,ei⟩:∃i:Nat,i<l.length∧(n:Int) % ((l.length:Nat):Int)=(i:Int):=⟨n % l.length,Nat.mod_lt _ HZ.out,by simp⟩
  have hz:=HZ.out
  obtain ⟨len,hlen⟩:∃len,len=l.length:=⟨_,rfl⟩
  rw [←hlen] at hn1 ei hz ⊢
  have HLEN:=Lib.hid hlen
  have hi2:i<len:=by rw [hlen];exact hi
  clear hlen
  have hlz:¬len=0:=by omega
  have hz2:(i:Int)<(len:Int):=by omega
  obtain ⟨g,cv,rfl,hg,ht⟩:=HV.out i hi
  obtain ⟨cb,ccap,rfl,hcv⟩:=ht.coms.view
  obtain ⟨t,ht3,ht3'⟩:=ht.text
  obtain ⟨bs,ht4,ht4'⟩:=ht.base
  have q0:=ht.kind
  have q1:=ht.sp
  have q2:=ht.raw
  have q5:=ht.pos
  have q6:=ht.fin
  have q7:=ht.com
  have ht3'':=ht3'.resolve_left (HG.out i hi)
  obtain ⟨K,hK⟩:∃K:ByteArray,K=⟨l[i].kind.toArray⟩:=⟨_,rfl⟩
  obtain ⟨R,hR⟩:∃R:ByteArray,R=⟨l[i].raw.toArray⟩:=⟨_,rfl⟩
  rw [←hK] at q0
  rw [←hR] at q2
  have hlike:∀N:ByteArray,(tickB N=false∨N.size=t.size)→isIdentB K=true→texts.foldB R N=true→texts.foldB t N=true:=by
    intro N hN hk hf
    have hkk:l[i].kind=lx.kIdent:=(kind_is hK).1 hk
    simp only [texts.foldB,decide_eq_true_eq] at hf ⊢
    have e1:t.data.toList=l[i].text:=by rw [ht3'']
    have e2:R.data.toList=l[i].raw:=by rw [hR]
    have e3:t.size=l[i].text.length:=by rw [ht3''];rfl
    rw [e1]
    rw [e2] at hf
    refine like_text (HF.out i hi) hkk (hN.imp (fun h=>h) (fun h=>?_)) hf
    rw [←e3,←h]
    simp
  have HLIKE:=Lib.hid hlike
  have hto:=HP.out i hi
  have hRs:R.size≤20000:=by
    have h3:=hto.fin
    have h4:=hto.le
    have e:R.size=l[i].raw.length:=by rw [hR];rfl
    simp at h4
    omega
  have hTs:t.size≤20000:=by
    have h3:=HTX.out i hi
    have e3:t.size=l[i].text.length:=by rw [ht3''];rfl
    simp at h3
    omega
  obtain ⟨SP,hSP⟩:∃SP:ByteArray,SP=⟨l[i].sp.toArray⟩:=⟨_,rfl⟩
  obtain ⟨P,hP⟩:∃P,P=l[i].pos:=⟨_,rfl⟩
  obtain ⟨F,hF⟩:∃F,F=l[i].fin:=⟨_,rfl⟩
  obtain ⟨cn,hcn⟩:∃cn,cn=l[i].coms.length:=⟨_,rfl⟩
  rw [←hSP] at q1
  rw [←hP] at q5
  rw [←hF] at q6
  rw [←hcn] at q7
  clear ht ht3' ht4' hcv hlike hto ht3'' hK hR hSP hP hF hcn hi
  go_wp2_with fail
  have hnew:=heap_alloc_new w1 (.cells #[.string K,.string SP,.string R,.string t,.int .i64 bs,.int .i64 (P:Int),.int .i64 (F:Int),.slice cb cn ccap] 29)
  have hbel:=below_alloc w1 (.cells #[.string K,.string SP,.string R,.string t,.int .i64 bs,.int .i64 (P:Int),.int .i64 (F:Int),.slice cb cn ccap] 29)
  have hsz:(w1.alloc (.cells #[.string K,.string SP,.string R,.string t,.int .i64 bs,.int .i64 (P:Int),.int .i64 (F:Int),.slice cb cn ccap] 29)).heap.size=w1.heap.size+1:=by simp
  generalize w1.alloc (.cells #[.string K,.string SP,.string R,.string t,.int .i64 bs,.int .i64 (P:Int),.int .i64 (F:Int),.slice cb cn ccap] 29)=W1 at hnew hbel hsz ⊢
  obtain ⟨y,hy⟩:∃y,y=w1.heap.size:=⟨_,rfl⟩
  rw [←hy] at hnew hsz ⊢
  have hylt:y<W1.heap.size:=by omega
  have HB1:=Lib.hid (HB1.out.trans (hbel.mono HB1.out.size))
  have HT1:=Lib.hid (HT.out.below HB1.out)
  clear q0 q1 q2 ht3 ht4 q5 q6 q7 hbel hsz hy
  have HNEW:=Lib.hid hnew
  have d0:=cells_of_heap hnew 0
  have d1:=cells_of_heap hnew 1
  have d2:=cells_of_heap hnew 2
  have d3:=cells_of_heap hnew 3
  have d4:=cells_of_heap hnew 4
  have d5:=cells_of_heap hnew 5
  have d6:=cells_of_heap hnew 6
  have d7:=cells_of_heap hnew 7
  clear hnew
  cases hat:texts.asciiB t with
  | false =>
    go_wp2_with (first|(go_at_call 21;refine (texts.ascii_any t _ (by unfold maxLen;omega)).mono ?_;rintro e w' ⟨rfl,rfl⟩;rw [hat])|(go_at_call 11;refine (lexes_any HT1.out).mono ?_;rintro e w2 ⟨rfl,hb2⟩;have HB2:=Lib.hid hb2;clear hb2))
    go_ret
    exact ⟨rfl,HB1.out.trans (HB2.out.mono HB1.out.size)⟩
  | true =>
    go_wp2_with (first|(go_at_call 21;refine (texts.ascii_any t _ (by unfold maxLen;omega)).mono ?_;rintro e w' ⟨rfl,rfl⟩;rw [hat])|(go_at_call 18;refine (texts.turned_any t m _ (by unfold maxLen;omega) hm0 hm1).mono ?_;rintro e w3 ⟨r,rfl,hc,hb3⟩;have HC:=Lib.hid hc;have HB3:=Lib.hid hb3;have d0':=(hb3.cell (p:=⟨y,_,none⟩) hylt).trans d0;have d1':=(hb3.cell (p:=⟨y,_,none⟩) hylt).trans d1;have d2':=(hb3.cell (p:=⟨y,_,none⟩) hylt).trans d2;have d3':=(hb3.cell (p:=⟨y,_,none⟩) hylt).trans d3;have d4':=(hb3.cell (p:=⟨y,_,none⟩) hylt).trans d4;have d5':=(hb3.cell (p:=⟨y,_,none⟩) hylt).trans d5;have d6':=(hb3.cell (p:=⟨y,_,none⟩) hylt).trans d6;have d7':=(hb3.cell (p:=⟨y,_,none⟩) hylt).trans d7;clear hc hb3))
    all_goals first
      | (obtain ⟨N,hN⟩:∃N:ByteArray,N=⟨r.toArray⟩:=⟨_,rfl⟩
         rw [←hN]
         have HNP:tickB N=false∨N.size=t.size:=.inr (by
           have h:=HC.out.1
           rw [hN]
           show r.toArray.size=_
           rw [List.size_toArray,h]
           simp)
         have hNt:N.size≤20000:=by
           have h:=HC.out.1
           have e:N.size=r.length:=by rw [hN];simp [ByteArray.size]
           have e2:t.data.toList.length=t.size:=by simp
           omega
         clear hN)
      | (obtain ⟨N,hN⟩:∃N:ByteArray,N=name:=⟨_,rfl⟩
         rw [←hN]
         have HNP:tickB N=false∨N.size=t.size:=.inl (by rw [hN];exact hq)
         have hNt:N.size≤20000:=by rw [hN];omega
         have HB3:=Lib.hid (Below.refl W1.heap.size W1)
         clear hN)
    all_goals
      have HBX:=Lib.hid (HB1.out.trans (HB3.out.mono HB1.out.size))
      have hNs:N.size≤20000:=by omega
      have u1:texts.foldB t N=true↔upper t.data.toList=upper N.data.toList:=by simp [texts.foldB]
      have u2:texts.foldB R N=true↔upper R.data.toList=upper N.data.toList:=by simp [texts.foldB]
      have hlk:=HLIKE.out N HNP
      cases hk:isIdentB K with
      | false =>
        have hk1:(K.toList==[60,105,100,101,110,116,62])=false:=hk
        clear hlk u1 u2
        refine (isIdent_any (by unfold maxLen;omega) (by unfold maxLen;omega)).mono ?_
        rintro e w4 ⟨rfl,hb4⟩
        have HBX:=Lib.hid (HBX.out.trans (hb4.mono HBX.out.size))
        have e0:=(hb4.cell (p:=⟨y,0,none⟩) (lt_of_cell (by assumption))).trans (by assumption)
        have e2:=(hb4.cell (p:=⟨y,2,none⟩) (lt_of_cell (by assumption))).trans (by assumption)
        have e3:=(hb4.cell (p:=⟨y,3,none⟩) (lt_of_cell (by assumption))).trans (by assumption)
        rw [hk,Bool.false_and,Bool.false_and]
        clear hb4 hk
        go_wp2_with (go_at_call 11;refine (lexes_any (HT.out.below HBX.out)).mono ?_;rintro e w2 ⟨rfl,hb2⟩;have HBX:=Lib.hid (HBX.out.trans (hb2.mono HBX.out.size));clear hb2)
        go_ret
        exact ⟨rfl,HBX.out⟩
      | true =>
        have hk1:(K.toList==[60,105,100,101,110,116,62])=true:=hk
        have hlk:=hlk hk
        obtain ⟨ft,hft⟩:∃ft,ft=texts.foldB t N:=⟨_,rfl⟩
        obtain ⟨fr,hfr⟩:∃fr,fr=texts.foldB R N:=⟨_,rfl⟩
        rw [←hft,←hfr] at hlk
        rw [←hft] at u1
        rw [←hfr] at u2
        refine (isIdent_any (by unfold maxLen;omega) (by unfold maxLen;omega)).mono ?_
        rintro e w4 ⟨rfl,hb4⟩
        have HBX:=Lib.hid (HBX.out.trans (hb4.mono HBX.out.size))
        have e0:=(hb4.cell (p:=⟨y,0,none⟩) (lt_of_cell (by assumption))).trans (by assumption)
        have e2:=(hb4.cell (p:=⟨y,2,none⟩) (lt_of_cell (by assumption))).trans (by assumption)
        have e3:=(hb4.cell (p:=⟨y,3,none⟩) (lt_of_cell (by assumption))).trans (by assumption)
        rw [hk,←hft,←hfr,Bool.true_and,Bool.true_and]
        clear hb4 hk hft hfr
        have hff:¬(ft=false∧fr=true):=fun h=>by rw [hlk h.2] at h;exact absurd h.1 (by decide)
        clear hlk
        cases ft <;> cases fr
        all_goals try exact absurd ⟨rfl,rfl⟩ hff
        all_goals clear hff
        all_goals first|have v1:=u1.1 rfl|have v1:¬upper t.data.toList=upper N.data.toList:=fun h=>by cases u1.2 h
        all_goals first|have v2:=u2.1 rfl|have v2:¬upper R.data.toList=upper N.data.toList:=fun h=>by cases u2.2 h
        all_goals clear u1 u2
        all_goals
          go_wp2_with (first
            | (go_at_call 24;refine (texts.upper_any _ _ (by unfold maxLen;omega)).mono ?_;rintro e w5 ⟨rfl,hb5⟩;have HBX:=Lib.hid (HBX.out.trans (hb5.mono HBX.out.size));have e2':=(hb5.cell (p:=⟨y,2,none⟩) (lt_of_cell (by assumption))).trans (by assumption);clear hb5)
            | (go_at_call 11;refine (lexes_any (HT.out.below HBX.out)).mono ?_;rintro e w2 ⟨rfl,hb2⟩;have HBX:=Lib.hid (HBX.out.trans (hb2.mono HBX.out.size));clear hb2))
          go_ret
          exact ⟨ret_bool (by first|rfl|(simp [v1];done)|(simp [v2];done)),HBX.out⟩
set_option maxHeartbeats 4000000 in
set_option maxRecDepth 100000 in
/-- The walk: where the law says nothing, and where it says something. -/
theorem names_any {w:World} (s name:ByteArray) (n m:Int) (hs:s.size≤maxLen) (hnm:name.size≤maxLen) (hn0:0≤n) (hn1:n≤255) (hm0:0≤m) (hm1:m≤18446744073709551615) (hT:Lib0 w):Calls Tryz.prog 8 #[.string s,.int .u8 n,.string name,.int .u64 m] w (Yes w):=by
  unfold maxLen at hs hnm
  have HT:=Lib.hid hT
  clear hT
  by_cases h0:(2147483647:Int)<(s.size:Int)∨(2147483647:Int)<(name.size:Int)
  · have h0':=h0
    rcases h0 with h0|h0
    · go_enter Tryz.func8,Tryz.ntmps8
      go_wp2
      go_ret
      exact ⟨rfl,Below.refl _ _⟩
    · by_cases h2:(2147483647:Int)<(s.size:Int)
      iterate 2
       · go_enter Tryz.func8,Tryz.ntmps8
         go_wp2
         go_ret
         exact ⟨rfl,Below.refl _ _⟩
  have h01:¬(2147483647:Int)<(s.size:Int):=fun h=>h0 (.inl h)
  have h02:¬(2147483647:Int)<(name.size:Int):=fun h=>h0 (.inr h)
  clear h0
  by_cases h1:(16384:Int)<(s.size:Int)+(name.size:Int)
  · go_enter Tryz.func8,Tryz.ntmps8
    go_wp2_with (go_at_call 11;refine (lexes_any HT.out).mono ?_;rintro e w2 ⟨rfl,hb2⟩;have HB2:=Lib.hid hb2;clear hb2)
    go_ret
    exact ⟨rfl,HB2.out⟩
  have hsz:s.size+name.size≤16384:=by omega
  cases hb:brittleB s with
  | true =>
    go_enter Tryz.func8,Tryz.ntmps8
    go_wp2_with (first|(go_at_call 10;refine (brittle_any s _ (by omega)).mono ?_;rintro e w' ⟨rfl,rfl⟩;rw [hb])|(go_at_call 11;refine (lexes_any HT.out).mono ?_;rintro e w2 ⟨rfl,hb2⟩;have HB2:=Lib.hid hb2;clear hb2))
    go_ret
    exact ⟨rfl,HB2.out⟩
  | false =>
    cases ha:texts.asciiB name with
    | false =>
      go_enter Tryz.func8,Tryz.ntmps8
      go_wp2_with (first|(go_at_call 10;refine (brittle_any s _ (by omega)).mono ?_;rintro e w' ⟨rfl,rfl⟩;rw [hb])|(go_at_call 21;refine (texts.ascii_any name _ (by unfold maxLen;omega)).mono ?_;rintro e w' ⟨rfl,rfl⟩;rw [ha])|(go_at_call 11;refine (lexes_any HT.out).mono ?_;rintro e w2 ⟨rfl,hb2⟩;have HB2:=Lib.hid hb2;clear hb2))
      go_ret
      exact ⟨rfl,HB2.out⟩
    | true =>
      cases hq:tickB name with
      | true =>
        go_enter Tryz.func8,Tryz.ntmps8
        go_wp2_with (first|(go_at_call 10;refine (brittle_any s _ (by omega)).mono ?_;rintro e w' ⟨rfl,rfl⟩;rw [hb])|(go_at_call 21;refine (texts.ascii_any name _ (by unfold maxLen;omega)).mono ?_;rintro e w' ⟨rfl,rfl⟩;rw [ha])|(go_at_call 22;refine (tick_any name _ (by omega)).mono ?_;rintro e w' ⟨rfl,rfl⟩;rw [hq])|(go_at_call 11;refine (lexes_any HT.out).mono ?_;rintro e w2 ⟨rfl,hb2⟩;have HB2:=Lib.hid hb2;clear hb2))
        go_ret
        exact ⟨rfl,HB2.out⟩
      | false =>
        obtain ⟨n,rfl⟩:=Int.eq_ofNat_of_zero_le hn0
        exact names_in hsz (by omega) hm0 hm1 hb ha hq HT.out
end Go.Proofs.YtaamolahbkgofaaGreatDoor.lex
set_option linter.unusedVariables false
namespace Go.Proofs.YtaamolahbkgofaaGreatDoor.fnNamesOfTokens
open Go.ChangeShapes Go.WideShapes Go.ChangeAt Go.RowKit
open Go.ChangeMaps (open_string shut_string)
open lex
set_option maxRecDepth 100000 in
theorem lifted (os:Os) (started:os.Started) (H:Type) (enc:TypeId × Value→H) :
  ReturnsInHanded {} Tryz.checked os 8 .any (fun w args=>(Rows.fnNamesOfTokensSpec.pre enc Tryz.prog Tryz.f8 [] false w args∧laidMetH Tryz.prog laidAll w)∧sizedMet enc Tryz.prog Tryz.f8 (OpenSpec.ofChange Rows.fnNamesOfTokensSpec) false w args)
   (Rows.fnNamesOfTokensSpec.post enc Tryz.prog Tryz.f8 false true false false):=by
 refine returnsInHanded_of_change_and (C:=Tryz.checked) (X:=fun w _=>laidMetH Tryz.prog laidAll w) (fun _ _ _ hh h=>h.of_heap hh) own started (by kernel_rfl) Tryz.func8
  (ChangeSpec.witness_shaped (enc:=enc) (C:=Tryz.checked) (os:=os) (X:=fun w _=>laidMetH Tryz.prog laidAll w) false (laidWorld os) #[.string ByteArray.empty,.int .u8 0,.string ByteArray.empty,.int .u64 0] 8 (laidWorld_os _) (laidWorld_shaped os) (by kernel_rfl) (by kernel_rfl) (by kernel_rfl) (laidWorld_met os _)) ?_
 intro W base args ds gs before hval0 hW _ _ hL _
 have hval:∀(j:Nat) t v,Tryz.f8.params[j]?=some t→args[j]?=some v→Value.okWide Tryz.prog W .any base t v:=hval0
 have hW':=hW
 obtain ⟨p,q,hA0,hV,rfl,hfz,hnd⟩:=hW
 have hA:DataW.TrodAll enc Tryz.prog W 0 (fun _=>true) true Tryz.f8.params.toList args.toList ds p:=hA0
 rw [Tryz.params8] at hA hval
 obtain ⟨v0,vs0,d0,ds0,p0,q0,hargs,rfl,rfl,h0,r0⟩:=trodAll_cons hA
 obtain ⟨v1,vs1,d1,ds1,p1,q1,rfl,rfl,rfl,h1,r1⟩:=trodAll_cons r0
 obtain ⟨v2,vs2,d2,ds2,p2,q2,rfl,rfl,rfl,h2,r2⟩:=trodAll_cons r1
 obtain ⟨v3,vs3,d3,ds3,p3,q3,rfl,rfl,rfl,h3,r3⟩:=trodAll_cons r2
 obtain ⟨rfl,rfl,rfl⟩:=trodAll_nil r3
 obtain rfl:args=#[v0,v1,v2,v3]:=by cases args;simp_all
 obtain ⟨rfl,rfl⟩:=trodVars_none hV
 obtain ⟨a0,rfl,rfl,rfl,w0⟩:=open_string Tryz.underlying9 (hval 0 9 v0 rfl rfl) h0
 obtain ⟨a1,rfl,rfl,rfl,w1⟩:=open_int Tryz.underlying5 (hval 1 5 v1 rfl rfl) h1
 obtain ⟨a2,rfl,rfl,rfl,w2⟩:=open_string Tryz.underlying9 (hval 2 9 v2 rfl rfl) h2
 obtain ⟨a3,rfl,rfl,rfl,w3⟩:=open_int Tryz.underlying36 (hval 3 36 v3 rfl rfl) h3
 clear hA0 hval0
 simp only [List.append_nil] at hW'
 have k1:0≤a1∧a1≤255:=by simpa [Lit.wf,IntKind.min,IntKind.max,IntKind.signed,IntKind.bits] using w1
 have k3:0≤a3∧a3≤18446744073709551615:=by simpa [Lit.wf,IntKind.min,IntKind.max,IntKind.signed,IntKind.bits] using w3
 refine (names_any a0 a2 a1 a3 w0 w2 (by omega) (by omega) (by omega) (by omega) (lib0_of hL)).mono fun e W' ⟨he,hg⟩=>?_
 subst he
 exact ⟨_,rfl,_,_,_,[],_,[],hW',trodAll_mk1 (shut_bool Tryz.underlying4 _),(trodAll_cons_mk (shut_string Tryz.underlying9 w0) (trodAll_cons_mk (shut_int Tryz.underlying5 w1) (trodAll_cons_mk (shut_string Tryz.underlying9 w2) (trodAll_cons_mk (shut_int Tryz.underlying36 w3) trodAll_mk0)))),rfl,hg.frame _,fun h=>by cases h⟩
theorem over:Rows.fnNamesOfTokensRow.holds Tryz.pinned (OpenSpec.ofChange Rows.fnNamesOfTokensSpec) :=
 OpenClaim.holds_of_wide 8 Tryz.f8 rfl rfl rfl rfl rfl rfl rfl ⟨rfl,rfl,rfl,rfl,rfl⟩ rfl rfl rfl rfl rfl (by kernel_rfl) Tryz.func8 (by kernel_rfl)
  (of_decide_eq_true (by kernel_rfl)) (by unfold Func.isWrapper;first|(rw [if_pos (by decide +kernel)];kernel_rfl)|(rw [if_neg (by decide +kernel)];exact ⟨rfl,rfl⟩))
  (fun os started H enc _=>lifted os started H enc)
/-- ████ THE STATEMENT ████ -/
theorem proved:Rows.FnNamesOfTokensCardSaid :=
 Claim7.holds_tied_plain_at .later [] [.data,.data,.data,.data,.handle,.sentinel,.sentinel,.listed,.sentinel,.pinned] true (true,"05128834e9706628839b710431c63ece714b33c913076a224a2057ef2449d0f3") true
  over (fun _ h=>by cases h) (by kernel_rfl) (fun _ h=>by cases h) fnNamesOfTokens_row_tie rfl ⟨rfl,rfl⟩ (by kernel_rfl) rfl
  (fun f fn hf hfn=>by
   obtain rfl:f=8:=Option.some.inj ((show Tryz.prog.funcNamed "pub-dabber/laws.FnNamesOfTokens"=some 8 by kernel_rfl).symm.trans hf) |>.symm
   obtain rfl:fn=Tryz.f8:=(Option.some.inj (Tryz.func8.symm.trans hfn)).symm
   exact ⟨by kernel_rfl,fun j t ht=>by
    rw [Tryz.params8] at ht
    have hm:t∈[9,5,9,36]:=by simpa using Array.mem_of_getElem? ht
    have hall:([9,5,9,36].all fun u=>!Tryz.prog.wantsStandIn u)=true:=by kernel_rfl
    exact (show Tryz.prog.wantsStandIn t=false by simpa using List.all_eq_true.1 hall t hm)⟩)
  (by kernel_rfl)
#print axioms proved
end Go.Proofs.YtaamolahbkgofaaGreatDoor.fnNamesOfTokens
