/-
  The laws' function formed, walked: keywords, signs; all tokens that have the form of their kind. The laws' function formed returns true at each token that has the form of its kind. Regions that draw their order, read, and end in a call: the walk of the reading part with its state behind a structure (a guard that is decided lets the elaborator unfold wpStill to the call). The law laws.FnLexForms, walked: each token has the form of its kind. The law laws.FnLexForms returns true at every text: each token that the lexer reads has the form of its kind. Conditions: of each, in its statement.
-/
import Derived.Test.YtaamolahbkgofaaGreatDoorK37
import Derived.StillTailTactics
import Derived.Test.YtaamolahbkgofaaGreatDoorK06
import Derived.Test.YtaamolahbkgofaaGreatDoorK31
import Derived.Test.YtaamolahbkgofaaGreatDoorK32
import Derived.Test.YtaamolahbkgofaaGreatDoorTie
import Derived.Test.YtaamolahbkgofaaGreatDoorCards
import Derived.SevenTiedAt
set_option linter.unusedVariables false
set_option linter.unusedSimpArgs false
namespace Go.Proofs.YtaamolahbkgofaaGreatDoor.lex
open Go.RowKit mem lines plain
/-- A kind that is none of those with a name in angle brackets. -/
structure Odd (K:ByteArray):Prop where
 k1:(K.toList==[60,101,111,102,62])=false
 k2:(K.toList==[60,105,100,101,110,116,62])=false
 k3:(K.toList==[60,112,97,114,97,109,62])=false
 k4:(K.toList==[60,105,110,116,62])=false
 k5:(K.toList==[60,102,108,111,97,116,62])=false
 k6:(K.toList==[60,115,116,114,105,110,103,62])=false
 k7:(K.toList==[60,98,121,116,101,115,62])=false
theorem odd_of {k:lx.Bs} (h:lx.special.contains k=false):Odd ⟨k.toArray⟩:=by
 have key:∀l∈lx.special,((⟨k.toArray⟩:ByteArray).toList==l)=false:=by
  intro l hl
  rw [Lib.toList_data,beq_eq_false_iff_ne]
  intro e
  have e':k=l:=e
  rw [e',List.contains_iff_mem.2 hl] at h
  cases h
 exact ⟨key _ (by decide),key _ (by decide),key _ (by decide),key _ (by decide),key _ (by decide),key _ (by decide),key _ (by decide)⟩
section
variable {w:World} {S R T:ByteArray} {P F:Int} {cb:Option Addr} {cn cc:Nat} {fl:Bool}
set_option maxHeartbeats 4000000 in
set_option maxRecDepth 100000 in
theorem formed_sign (w:World) (hR:R.size≤3) (hO:Odd R) (hk:lx.keyword (R.data.toList.map up)=false):Calls Tryz.prog 19 #[.agg #[.string R,.string S,.string R,.string ⟨#[]⟩,.int .i64 0,.int .i64 P,.int .i64 F,.slice cb cn cc],.bool fl] w (Yes w):=by
 have HK:=Lib.hid (fun W=>impl_keyword_any R W (by omega))
 rw [hk] at HK
 obtain ⟨k1,k2,k3,k4,k5,k6,k7⟩:=hO
 have h3:(R.size:Int)≤3:=by omega
 have hbel:=below_alloc w (.cells #[.string R,.string S,.string R,.string ⟨#[]⟩,.int .i64 0,.int .i64 P,.int .i64 F,.slice cb cn cc] 29)
 have hnew:=heap_alloc_new w (.cells #[.string R,.string S,.string R,.string ⟨#[]⟩,.int .i64 0,.int .i64 P,.int .i64 F,.slice cb cn cc] 29)
 have HBEL:=Lib.hid hbel
 have HNEW:=Lib.hid hnew
 clear hbel hnew
 go_enter Tryz.func19,Tryz.ntmps19
 go_wp2_with (first|(go_at_call 16;refine (begins_any _ _ _ (by omega) (by decide)).mono ?_;rintro e w' ⟨rfl,rfl⟩)|(go_at_call 17;refine (HK.out _).mono ?_;rintro e w2 ⟨rfl,hb2⟩;obtain ⟨c0,c2,c3,c4,_⟩:=frm_S HNEW.out (Lib.hid hb2);have HB2:=Lib.hid hb2;clear hb2))
 go_ret
 exact ⟨rfl,HBEL.out.trans (HB2.out.mono (by simp))⟩
set_option maxHeartbeats 4000000 in
set_option maxRecDepth 100000 in
theorem formed_kw {K:ByteArray} (w:World) (hR:R.size≤20000) (hO:Odd K) (hk:lx.keyword (R.data.toList.map up)=true) (hU:∀W,Calls Tryz.prog 24 #[.string R] W fun e w'=>e=.returned (.string K)∧Below W.heap.size W w'):Calls Tryz.prog 19 #[.agg #[.string K,.string S,.string R,.string ⟨#[]⟩,.int .i64 0,.int .i64 P,.int .i64 F,.slice cb cn cc],.bool fl] w (Yes w):=by
 have HK:=Lib.hid (fun W=>impl_keyword_any R W (by omega))
 rw [hk] at HK
 have HU:=Lib.hid hU
 clear hU
 obtain ⟨k1,k2,k3,k4,k5,k6,k7⟩:=hO
 have hbel:=below_alloc w (.cells #[.string K,.string S,.string R,.string ⟨#[]⟩,.int .i64 0,.int .i64 P,.int .i64 F,.slice cb cn cc] 29)
 have hnew:=heap_alloc_new w (.cells #[.string K,.string S,.string R,.string ⟨#[]⟩,.int .i64 0,.int .i64 P,.int .i64 F,.slice cb cn cc] 29)
 have HBEL:=Lib.hid hbel
 have HNEW:=Lib.hid hnew
 clear hbel hnew
 go_enter Tryz.func19,Tryz.ntmps19
 go_wp2_with (first|(go_at_call 16;refine (begins_any _ _ _ (by omega) (by decide)).mono ?_;rintro e w' ⟨rfl,rfl⟩)|(go_at_call 17;refine (HK.out _).mono ?_;rintro e w2 ⟨rfl,hb2⟩;obtain ⟨c0,c2,c3,c4,_⟩:=frm_S HNEW.out (Lib.hid hb2);have HB2:=Lib.hid hb2;clear hb2))
 obtain ⟨y,hy⟩:∃y,y=w.heap.size:=⟨_,rfl⟩
 rw [←hy] at HNEW c0 c2 c3 c4 ⊢
 have HY:=Lib.hid hy
 clear hy
 have HB2':Hid (Below (w.alloc (.cells #[.string K,.string S,.string R,.string ⟨#[]⟩,.int .i64 0,.int .i64 P,.int .i64 F,.slice cb cn cc] 29)).heap.size (w.alloc (.cells #[.string K,.string S,.string R,.string ⟨#[]⟩,.int .i64 0,.int .i64 P,.int .i64 F,.slice cb cn cc] 29)) w2):=HB2
 generalize w.alloc (.cells #[.string K,.string S,.string R,.string ⟨#[]⟩,.int .i64 0,.int .i64 P,.int .i64 F,.slice cb cn cc] 29)=W0 at *
 have HR1:Hid (Below W0.heap.size W0 w2.drew):=HB2'.out.drew
 first
  | (go_region_held3 (fun W=>W.cell? ⟨y,0,none⟩=some (.string K)∧W.cell? ⟨y,2,none⟩=some (.string R)∧W.cell? ⟨y,3,none⟩=some (.string ⟨#[]⟩)∧W.cell? ⟨y,4,none⟩=some (.int .i64 0)∧Hid (Below W0.heap.size W0 W))
    (first|assumption|exact frm_S HNEW.out HR1|exact frm_S HNEW.out (Lib.hid ((‹_∧_∧_∧_∧Hid (Below _ _ _)›).2.2.2.2.out.trans ((‹Hid (Below _ _ _)›:Hid (Below _ _ _)).out.mono ((‹_∧_∧_∧_∧Hid (Below _ _ _)›).2.2.2.2.out.size)))))
    (first|(go_at_call 24;refine (HU.out _).mono ?_;rintro e w4 ⟨rfl,hb⟩;have HB:=Lib.hid hb;clear hb)))
  | fail
 go_wp2_with fail
 go_ret
 exact ⟨rfl,by have h:=(‹_∧_∧_∧_∧Hid (Below _ _ _)›).2.2.2.2.out;have h2:=HBEL.out.size;exact HBEL.out.trans (h.mono h2)⟩
end
end Go.Proofs.YtaamolahbkgofaaGreatDoor.lex
set_option linter.unusedVariables false
namespace Go.Proofs.YtaamolahbkgofaaGreatDoor.lex
open Go.RowKit mem lines plain
theorem begB_one (l:lx.Bs) (c:UInt8):begB ⟨l.toArray⟩ ⟨#[c]⟩=decide (l.head?=some c):=by
 rw [Bool.eq_iff_iff]
 simp only [begB,decide_eq_true_eq]
 show l.take 1=[c]↔_
 cases l with
 | nil=>simp
 | cons d r=>simp
theorem endB_one (l:lx.Bs) (c:UInt8):endB ⟨l.toArray⟩ ⟨#[c]⟩=decide (l.getLast?=some c):=by
 rw [Bool.eq_iff_iff]
 simp only [endB,decide_eq_true_eq]
 show (1≤l.length∧l.drop (l.length-1)=[c])↔_
 rw [List.getLast?_eq_getElem?]
 cases h:l.length with
 | zero =>
  have:l=[]:=List.length_eq_zero_iff.1 h
  subst this
  simp
 | succ n =>
  have hn:n<l.length:=by omega
  rw [Nat.add_sub_cancel,List.getElem?_eq_getElem hn]
  have e:l.drop n=[l[n]]:=by
   rw [List.drop_eq_getElem_cons hn,List.drop_eq_nil_of_le (by omega)]
  rw [e]
  simp
theorem mk_get (l:lx.Bs) (j:Nat) (h:j<(⟨l.toArray⟩:ByteArray).size):(⟨l.toArray⟩:ByteArray)[j]=l[j]'(by simpa [ByteArray.size] using h):=rfl
theorem letZ_id (c:UInt8):letZ (c.toNat:Int)=lx.isIdS c.toNat:=by
 rw [Bool.eq_iff_iff]
 simp only [letZ,lx.isIdS,decide_eq_true_eq]
 omega
theorem digZ_dig (c:UInt8):digZ (c.toNat:Int)=lx.dig c:=by
 rw [Bool.eq_iff_iff]
 simp only [digZ,lx.dig,decide_eq_true_eq]
 omega
theorem idP_or (c:UInt8):(letZ (c.toNat:Int)||digZ (c.toNat:Int))=lx.idP c:=by
 rw [Bool.eq_iff_iff]
 simp only [letZ,digZ,lx.idP,Bool.or_eq_true,decide_eq_true_eq]
 omega
theorem not_nil {l:lx.Bs} (h:l≠[]):(⟨l.toArray⟩:ByteArray).toList.isEmpty=false:=by
 rw [Lib.toList_data]
 cases l with
 | nil=>exact absurd rfl h
 | cons c r=>rfl
theorem up_one (d:UInt8) (x:ByteArray) (hx:x.data.toList=[d]) (w:World):Calls Tryz.prog 24 #[.string x] w fun e w'=>e=.returned (.string ⟨#[up d]⟩)∧Below w.heap.size w w':=by
 have h:=texts.upper_any x w (by
  have:x.size=1:=by
   have e:x.data.toList.length=x.size:=by simp
   rw [hx] at e
   simpa using e.symm
  rw [this]
  decide)
 rw [hx] at h
 exact h
theorem up_88 (d:UInt8):up d=88↔d=120∨d=88:=by
 have key:∀d:UInt8,up d=88↔d=120∨d=88:=all_bytes (by decide +kernel)
 exact key d
theorem second (c d:UInt8) (r:lx.Bs):((⟨(c::d::r).toArray⟩:ByteArray).extract 1 2).data.toList=[d]:=by
 rw [extract_list]
 rfl
theorem formed_any {S:ByteArray} {P F:Int} {cb:Option Addr} {cn cc:Nat} {fl:Bool} {field:Prop} {k:lx.Tk} (w:World) (hf:lx.FormP k.kind k.raw k.text k.base field) (hfl:field→fl=true) (hr:k.raw.length≤20000) :
  Calls Tryz.prog 19 #[.agg #[.string ⟨k.kind.toArray⟩,.string S,.string ⟨k.raw.toArray⟩,.string ⟨k.text.toArray⟩,.int .i64 (k.base:Int),.int .i64 P,.int .i64 F,.slice cb cn cc],.bool fl] w (Yes w):=by
 cases hf with
 | eof h1 h2 h3 h4 =>
  rw [h1,h2,h3,h4]
  exact formed_eof w
 | quote h1 h2 h3 h4 h5 h6 h7 =>
  rw [h1,h6]
  exact formed_quote w hr (by rw [begB_one,h2];simp) h3 (by rw [endB_one,h4];simp) (not_nil h5)
 | name h1 h2 h3 h4 h5 =>
  obtain ⟨c,r,e,hc⟩:=h4
  rw [h1,h2,h3]
  have hb:begB ⟨k.raw.toArray⟩ ⟨#[96]⟩=false:=by rw [begB_one,e];simpa using hc
  rcases h5 with h5|⟨h5,h6⟩
  ·rw [hfl h5]
   exact formed_field w hr hb
  ·rw [e] at h5
   simp only [lx.wordB,Bool.and_eq_true] at h5
   refine formed_word w hr hb (by rw [e];exact Nat.succ_pos _) ?_ ?_ h6
   ·rw [letZ_id,mk_get]
    simp only [e,List.getElem_cons_zero]
    exact h5.1
   ·intro j hj
    rw [idP_or,mk_get]
    have hj':j<k.raw.length:=hj
    have hall:∀x∈k.raw,lx.idP x=true:=by
     rw [e]
     intro x hx
     rcases List.mem_cons.1 hx with rfl|hx
     ·have:=h5.1
      simp only [lx.isIdS,lx.idP,decide_eq_true_eq] at this ⊢
      omega
     ·exact List.all_eq_true.1 h5.2 x hx
    exact hall _ (List.getElem_mem hj')
 | param h1 h2 h3 h4 =>
  rw [h1,h4]
  exact formed_param w hr (by rw [begB_one,h2];simp) (not_nil h3)
 | int10 h1 h2 h3 h4 =>
  obtain ⟨c,r,e,hc,hx⟩:=h4
  rw [h1,h2,h3]
  rw [e] at hr ⊢
  have hd:digZ (((⟨(c::r).toArray⟩:ByteArray)[0]'(Nat.succ_pos _)).toNat:Int)=true:=by rw [digZ_dig];exact hc
  by_cases h48:1<(c::r).length∧c=48
  ·obtain ⟨hl,h48⟩:=h48
   cases r with
   | nil=>simp at hl
   | cons d r =>
    have hd2:¬(d=120∨d=88):=fun h=>hx ⟨h48,d,r,rfl,h⟩
    refine formed_int10x (U:=⟨#[up d]⟩) w hr hl hd (by subst h48;rfl) (fun W=>up_one d _ (second c d r) W) ?_
    rw [Lib.toList_data,beq_eq_false_iff_ne]
    intro h
    have:up d=88:=by simpa using h
    exact hd2 ((up_88 d).1 this)
  ·refine formed_int10 w hr (Nat.succ_pos _) hd fun h=>h48 ⟨h.1, ?_⟩
   have h2:(c.toNat:Int)=48:=h.2
   exact UInt8.toNat_inj.1 (by show c.toNat=48;omega)
 | int16 h1 h2 h3 h4 =>
  obtain ⟨d,r,e,hd⟩:=h4
  rw [h1,h2,h3]
  rw [e] at hr ⊢
  refine formed_int16 (U:=⟨#[up d]⟩) w hr (by show 1<_;simp [ByteArray.size]) rfl rfl (fun W=>up_one d _ (second 48 d r) W) ?_
  rw [Lib.toList_data,(up_88 d).2 hd]
  rfl
 | float h1 h2 h3 h4 =>
  obtain ⟨c,d,r,e,hc⟩:=h4
  rw [h1,h2,h3]
  rw [e] at hr ⊢
  refine formed_float w hr (by show 1<_;simp [ByteArray.size]) ?_
  rcases hc with hc|hc
  ·left
   rw [digZ_dig]
   exact hc
  ·right
   rw [hc]
   rfl
 | str h1 h2 h3 h4 =>
  rw [h2]
  refine formed_str w hr ?_ h3 ?_
  ·rcases h1 with h1|h1 <;> rw [h1]
   ·exact .inl rfl
   ·exact .inr rfl
  ·rw [endB_one,endB_one]
   rcases h4 with h4|h4 <;> rw [h4]
   ·exact .inl (by decide)
   ·exact .inr (by decide)
 | kw h1 h2 h3 h4 h5 =>
  rw [h3,h4]
  refine formed_kw w hr (odd_of h5) (by rw [h1] at h2;exact h2) fun W=>?_
  have:=texts.upper_any ⟨k.raw.toArray⟩ W (by unfold maxLen;show k.raw.length≤_;omega)
  rw [h1]
  exact this
 | sign h1 h2 h3 h4 h5 =>
  rw [h1,h2,h3]
  refine formed_sign w (Nat.le_trans h4 (by decide)) (odd_of ?_) h5
  cases hs:lx.special.contains k.raw with
  | false=>rfl
  | true =>
   exfalso
   have key:∀l∈lx.special,2<l.length:=by decide
   have:=key _ (List.contains_iff_mem.1 hs)
   omega
end Go.Proofs.YtaamolahbkgofaaGreatDoor.lex
set_option linter.unusedVariables false
namespace Go.Proofs.YtaamolahbkgofaaGreatDoor.lex
open Go.RowKit mem lines plain
structure StQ (P:Program) (ops:Array Oper) (w:World) (Q:Act→Prop) (l:List Oper) (a:Act):Prop where
 out:wpStill P ops w Q l a
section
variable {P:Program} {ops:Array Oper} {w:World} {Q:Act→Prop}
theorem StQ.step {a:Act} {o:Oper} {rest:List Oper} (h:∀K:Act→Prop,(∀a,StQ P ops w Q rest a→K a)→if Region.wanted o (yielded ops a.tmps) then o.still P a w K else K (a.put o.dst undef)):StQ P ops w Q (o::rest) a :=
 ⟨wpStill_step fun K hK=>h K fun a ha=>hK a ha.out⟩
theorem StQ.nil {a:Act} (h:Q a):StQ P ops w Q [] a:=⟨wpStill_nil h⟩
end
theorem region_StQ {P:Program} {id:Nat} {Q:Exit→Act→World→Prop} {a:Act} {w:World} {l:List Oper} (n:Nat) (hm:P.follows .mixedOrders=true) (hB:Region.lexTailB .any l.toArray n=true)
  (h:StQ P l.toArray { w with drawn:=w.drawn+1 } (fun a'=>wpList P l.toArray Q (l.drop n) a' { w with drawn:=w.drawn+1 }) (l.take n) a):(Code.region id l.toArray true).wp P Q a w :=
 wp_region_still_tail n hm hB h.out
end Go.Proofs.YtaamolahbkgofaaGreatDoor.lex
set_option linter.unusedVariables false
set_option linter.unusedSimpArgs false
namespace Go.Proofs.YtaamolahbkgofaaGreatDoor.lex
open Go.RowKit mem lines plain
set_option maxHeartbeats 4000000 in
set_option maxRecDepth 100000 in
theorem forms_in {w:World} {s:ByteArray} (hs:s.size≤16384) (hb:brittleB s=false) (hT:Lib0 w):Calls Tryz.prog 6 #[.string s] w (Yes w):=by
 have h1:(s.size:Int)≤16384:=by omega
 have hL:=lex_any (w:=w) (s:=s) (by omega) hT (lx.toks_fine false (sound_of hb)).1
 have HL:=Lib.hid hL
 have HT:=Lib.hid hT
 have HP:=Lib.hid (fun i h=>(lx.toks_steps false s.data.toList).place i h)
 have HL1:=Lib.hid (lx.toks_length false s.data.toList)
 have HF:=Lib.hid (fun i h=>lx.toks_form s.data.toList i h)
 have HG:=Lib.hid (fun i h=>((lx.toks_steps false s.data.toList).fact i h).1.bad rfl)
 clear hL hT
 go_enter Tryz.func6,Tryz.ntmps6
 go_wp2_with (first|(go_at_call 10;refine (brittle_any s _ (by omega)).mono ?_;rintro e w' ⟨rfl,rfl⟩;rw [hb])|(go_at_call 12;refine HL.out.mono ?_;rintro e w1 ⟨v,z,rfl,ht,hb1⟩;have HB1:=Lib.hid hb1;obtain ⟨b,cap,rfl,hv⟩:=ht.view;have HV:=Lib.hid hv;clear hb1 ht hv;generalize lx.toks false s.data.toList=r at *;obtain ⟨l,en⟩:=r;simp only at HP HV HL1 HF HG ⊢;have hn1:l.length≤16385:=(by have:=HL1.out;simp at this;omega);obtain ⟨n,hn⟩:∃n,n=l.length:=⟨_,rfl⟩;rw [←hn] at hn1;rw [←hn];have HNN:=Lib.hid hn;clear hn))
 go_loopw [26] (fun i wr=>∃k:Nat,k≤n∧i=.int .i64 (k:Int)∧Hid (Below w1.heap.size w1 wr)) (fun i _=>n-(intOf i).toNat)
 case atStart=>exact ⟨0,Nat.zero_le _,rfl,Below.refl _ _⟩
 case round =>
  rename World=>wo
  obtain ⟨k,hk,rfl,HB⟩:=hrel
  by_cases hlt:k<n
  ·have hz:(k:Int)<(n:Int):=by omega
   have hkl:k<l.length:=by have:=HNN.out;omega
   obtain ⟨g,cv,rfl,hg,ht⟩:=HV.out k hkl
   obtain ⟨cb,ccap,rfl,hcv⟩:=ht.coms.view
   clear hcv
   obtain ⟨t,ht3,ht3'⟩:=ht.text
   obtain ⟨bs,ht4,ht4'⟩:=ht.base
   have htt:=ht3'.resolve_left (HG.out k hkl)
   have hbb:=ht4'.resolve_left (HG.out k hkl)
   subst htt hbb
   have HD:Hid (Below w1.heap.size w1 { wo with drawn:=wo.drawn+1 }):=HB.out.drew
   have q0:=(HB.out.cell (p:=⟨g,_,none⟩) hg).trans ht.kind
   have q1:=(HB.out.cell (p:=⟨g,_,none⟩) hg).trans ht.sp
   have q2:=(HB.out.cell (p:=⟨g,_,none⟩) hg).trans ht.raw
   have q3:=(HB.out.cell (p:=⟨g,_,none⟩) hg).trans ht3
   have q4:=(HB.out.cell (p:=⟨g,_,none⟩) hg).trans ht4
   have q5:=(HB.out.cell (p:=⟨g,_,none⟩) hg).trans ht.pos
   have q6:=(HB.out.cell (p:=⟨g,_,none⟩) hg).trans ht.fin
   have q7:=(HB.out.cell (p:=⟨g,_,none⟩) hg).trans ht.com
   clear ht ht3' ht4' ht3 ht4
   have hfm:=HF.out k hkl
   have hrw:l[k].raw.length≤20000:=by
    have h:=HP.out k hkl
    have h3:=h.fin
    have h4:=h.le
    simp at h4
    omega
   have HRW:=Lib.hid hrw
   have HFM:=Lib.hid hfm
   clear hrw hfm
   obtain ⟨tk,htk⟩:∃tk,tk=l[k]:=⟨_,rfl⟩
   rw [←htk] at q0 q1 q2 q3 q4 q5 q6 q7 HRW HFM
   clear htk
   by_cases h0:k=0
   ·subst h0
    have HL0:Hid (¬lx.lastK [] l 0=[46]):=fun h=>by
     have e:lx.lastK [] l 0=[]:=by cases l <;> rfl
     rw [e] at h
     cases h
    simp only [Nat.zero_mul,Nat.zero_add] at q0 q1 q2 q3 q4 q5 q6 q7
    go_wp2_with fail
    refine region_StQ 15 (by kernel_rfl) (by kernel_rfl) ?_
    simp only [List.take_succ_cons,List.take_zero,List.drop_succ_cons,List.drop_zero]
    iterate 15 (refine StQ.step (fun K hK=>?_);go_simp;refine hK _ ?_;clear hK K)
    refine StQ.nil ?_
    go_wp2_with (go_at_call 19;refine (formed_any (k:=tk) _ HFM.out (fun h=>absurd h HL0.out) HRW.out).mono ?_;rintro e w2 ⟨rfl,hb2⟩;have HB2:=Lib.hid hb2;clear hb2)
    go_roundw
    case rel=>exact ⟨1,by omega,rfl,HD.out.trans (HB2.out.mono HD.out.size)⟩
    case measure=>simp [intOf];omega
   ·have hjl:k-1<l.length:=by omega
    obtain ⟨g',cv',e',hg',ht'⟩:=HV.out (k-1) hjl
    cases e'
    have r0:=(HB.out.cell (p:=⟨g,_,none⟩) hg).trans ht'.kind
    clear ht'
    have hfl:Hid (lx.lastK [] l k=[46]→(l[k-1].kind==[46])=true):=by
     intro h
     obtain ⟨j,rfl⟩:∃j,k=j+1:=⟨k-1,by omega⟩
     rw [lx.lastK_succ _ _ _ (by simpa using hjl)] at h
     simpa using h
    have hk0:0<k:=by omega
    have hk0':(0:Int)<(k:Int):=by omega
    have hw1:=IntWalk.i64_in ((k:Int)-1) (by omega)
    have e1:((k:Int)-1).toNat=k-1:=by omega
    have hz1:(k:Int)-1<(n:Int):=by omega
    have hz2:(1:Int)≤(k:Int):=by omega
    clear h0
    go_wp2_with fail
    refine region_StQ 15 (by kernel_rfl) (by kernel_rfl) ?_
    simp only [List.take_succ_cons,List.take_zero,List.drop_succ_cons,List.drop_zero]
    iterate 15 (refine StQ.step (fun K hK=>?_);go_simp;refine hK _ ?_;clear hK K)
    refine StQ.nil ?_
    go_wp2_with (go_at_call 19;refine (formed_any (k:=tk) _ HFM.out (hfl.out) HRW.out).mono ?_;rintro e w2 ⟨rfl,hb2⟩;have HB2:=Lib.hid hb2;clear hb2)
    go_roundw
    case rel=>exact ⟨k+1,by omega,by go_num,HD.out.trans (HB2.out.mono HD.out.size)⟩
    case measure=>simp [intOf];omega
  ·have hz:¬(k:Int)<(n:Int):=by omega
   go_wp2_with (first|(go_at_call 11;refine (lexes_any (HT.out.below (HB1.out.trans (HB.out.mono HB1.out.size)))).mono ?_;rintro e w2 ⟨rfl,hb2⟩;have HB2:=Lib.hid hb2;clear hb2))
   go_ret
   exact ⟨rfl,(HB1.out.trans (HB.out.mono HB1.out.size)).trans (HB2.out.mono (HB1.out.trans (HB.out.mono HB1.out.size)).size)⟩
set_option maxHeartbeats 2000000 in
/-- The walk: where the law says nothing, and where it says something. -/
theorem forms_any {w:World} (s:ByteArray) (hs:s.size≤maxLen) (hT:Lib0 w):Calls Tryz.prog 6 #[.string s] w (Yes w):=by
 unfold maxLen at hs
 have HT:=Lib.hid hT
 clear hT
 by_cases h0:(2147483647:Int)<(s.size:Int)
 ·go_enter Tryz.func6,Tryz.ntmps6
  go_wp2
  go_ret
  exact ⟨rfl,Below.refl _ _⟩
 by_cases h1:(16384:Int)<(s.size:Int)
 ·go_enter Tryz.func6,Tryz.ntmps6
  go_wp2_with (go_at_call 11;refine (lexes_any HT.out).mono ?_;rintro e w2 ⟨rfl,hb2⟩;have HB2:=Lib.hid hb2;clear hb2)
  go_ret
  exact ⟨rfl,HB2.out⟩
 cases hb:brittleB s with
 | true =>
  have hsz:s.size≤16384:=by omega
  go_enter Tryz.func6,Tryz.ntmps6
  go_wp2_with (first|(go_at_call 10;refine (brittle_any s _ (by omega)).mono ?_;rintro e w' ⟨rfl,rfl⟩;rw [hb])|(go_at_call 11;refine (lexes_any HT.out).mono ?_;rintro e w2 ⟨rfl,hb2⟩;have HB2:=Lib.hid hb2;clear hb2))
  go_ret
  exact ⟨rfl,HB2.out⟩
 | false=>exact forms_in (by omega) hb HT.out
end Go.Proofs.YtaamolahbkgofaaGreatDoor.lex
set_option linter.unusedVariables false
namespace Go.Proofs.YtaamolahbkgofaaGreatDoor.fnLexForms
open Go.ChangeShapes Go.WideShapes Go.ChangeAt Go.RowKit
open Go.ChangeMaps (open_string shut_string)
open lex
set_option maxRecDepth 100000 in
theorem lifted (os:Os) (started:os.Started) (H:Type) (enc:TypeId × Value→H) :
  ReturnsInHanded {} Tryz.checked os 6 .any (fun w args=>(Rows.fnLexFormsSpec.pre enc Tryz.prog Tryz.f6 [] false w args∧laidMetH Tryz.prog laidAll w)∧sizedMet enc Tryz.prog Tryz.f6 (OpenSpec.ofChange Rows.fnLexFormsSpec) false w args)
   (Rows.fnLexFormsSpec.post enc Tryz.prog Tryz.f6 false true false false):=by
 refine returnsInHanded_of_change_and (C:=Tryz.checked) (X:=fun w _=>laidMetH Tryz.prog laidAll w) (fun _ _ _ hh h=>h.of_heap hh) own started (by kernel_rfl) Tryz.func6
  (ChangeSpec.witness_shaped (enc:=enc) (C:=Tryz.checked) (os:=os) (X:=fun w _=>laidMetH Tryz.prog laidAll w) false (laidWorld os) #[.string ByteArray.empty] 8 (laidWorld_os _) (laidWorld_shaped os) (by kernel_rfl) (by kernel_rfl) (by kernel_rfl) (laidWorld_met os _)) ?_
 intro W base args ds gs before hval0 hW _ _ hL _
 have hval:∀(j:Nat) t v,Tryz.f6.params[j]?=some t→args[j]?=some v→Value.okWide Tryz.prog W .any base t v:=hval0
 have hW':=hW
 obtain ⟨p,q,hA0,hV,rfl,hfz,hnd⟩:=hW
 have hA:DataW.TrodAll enc Tryz.prog W 0 (fun _=>true) true Tryz.f6.params.toList args.toList ds p:=hA0
 rw [Tryz.params6] at hA hval
 obtain ⟨v0,d0,rfl,rfl,h0⟩:=trodAll_one hA
 obtain ⟨rfl,rfl⟩:=trodVars_none hV
 obtain ⟨a0,rfl,rfl,rfl,w0⟩:=open_string Tryz.underlying9 (hval 0 9 v0 rfl rfl) h0
 clear hA0 hval0
 simp only [List.append_nil] at hW'
 refine (forms_any a0 w0 (lib0_of hL)).mono fun e W' ⟨he,hg⟩=>?_
 subst he
 exact ⟨_,rfl,_,_,_,[],_,[],hW',trodAll_mk1 (shut_bool Tryz.underlying4 _),trodAll_mk1 (shut_string Tryz.underlying9 w0),rfl,hg.frame _,fun h=>by cases h⟩
theorem over:Rows.fnLexFormsRow.holds Tryz.pinned (OpenSpec.ofChange Rows.fnLexFormsSpec) :=
 OpenClaim.holds_of_wide 6 Tryz.f6 rfl rfl rfl rfl rfl rfl rfl ⟨rfl,rfl,rfl,rfl,rfl⟩ rfl rfl rfl rfl rfl (by kernel_rfl) Tryz.func6 (by kernel_rfl)
  (of_decide_eq_true (by kernel_rfl)) (by unfold Func.isWrapper;first|(rw [if_pos (by decide +kernel)];kernel_rfl)|(rw [if_neg (by decide +kernel)];exact ⟨rfl,rfl⟩))
  (fun os started H enc _=>lifted os started H enc)
/-- ████ THE STATEMENT ████ -/
theorem proved:Rows.FnLexFormsCardSaid :=
 Claim7.holds_tied_plain_at .later [] [.data,.data,.data,.data,.handle,.sentinel,.sentinel,.listed,.sentinel,.pinned] true (true,"05128834e9706628839b710431c63ece714b33c913076a224a2057ef2449d0f3") true
  over (fun _ h=>by cases h) (by kernel_rfl) (fun _ h=>by cases h) fnLexForms_row_tie rfl ⟨rfl,rfl⟩ (by kernel_rfl) rfl
  (fun f fn hf hfn=>by
   obtain rfl:f=6:=Option.some.inj ((show Tryz.prog.funcNamed "pub-dabber/laws.FnLexForms"=some 6 by kernel_rfl).symm.trans hf) |>.symm
   obtain rfl:fn=Tryz.f6:=(Option.some.inj (Tryz.func6.symm.trans hfn)).symm
   exact ⟨by kernel_rfl,fun j t ht=>by
    rw [Tryz.params6] at ht
    have hm:t∈[9]:=by simpa using Array.mem_of_getElem? ht
    have hall:([9].all fun u=>!Tryz.prog.wantsStandIn u)=true:=by kernel_rfl
    exact (show Tryz.prog.wantsStandIn t=false by simpa using List.all_eq_true.1 hall t hm)⟩)
  (by kernel_rfl)
#print axioms proved
end Go.Proofs.YtaamolahbkgofaaGreatDoor.fnLexForms
