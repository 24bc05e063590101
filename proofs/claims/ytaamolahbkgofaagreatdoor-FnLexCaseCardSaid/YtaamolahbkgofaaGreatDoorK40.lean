/-
  Plain facts for the law laws.FnLexCase: a token whose bytes are a keyword's, and that is no identifier and not the end, is the keyword. Plain facts for the law laws.FnLexCase: a text whose keywords' letters are turned, one token after the other, is a variant of the text. Bytes of the call's own, with others copied over some of them. The law laws.FnLexCase, walked. The law laws.FnLexCase returns true at every text and every choice of letters: the letters of a text's keywords may be small or capital, its tokens are the same. Conditions: of each, in its statement.
-/
import Derived.Test.YtaamolahbkgofaaGreatDoorK06
import Derived.Test.YtaamolahbkgofaaGreatDoorK07
import Derived.Lib.LazyBuf
import Derived.Test.YtaamolahbkgofaaGreatDoorK01
import Derived.Test.YtaamolahbkgofaaGreatDoorK31
import Derived.Test.YtaamolahbkgofaaGreatDoorK32
import Derived.Test.YtaamolahbkgofaaGreatDoorTie
import Derived.Test.YtaamolahbkgofaaGreatDoorCards
import Derived.SevenTiedAt
set_option linter.unusedVariables false
namespace Go.Proofs.YtaamolahbkgofaaGreatDoor.lx
theorem kws_bytes:kws.all (fun k=>k.all fun b=>decide ((65≤b.toNat∧b.toNat≤90)∨b=95))=true:=by decide
theorem keyword_byte {k:Bs} (h:keyword k=true) {b:UInt8} (hb:b∈k):(65≤b.toNat∧b.toNat≤90)∨b=95:=by
 have h1:=List.all_eq_true.1 kws_bytes k (keyword_mem h)
 have h2:=List.all_eq_true.1 h1 b hb
 simpa using h2
theorem up_letter {c:UInt8}:(65≤(plain.up c).toNat∧(plain.up c).toNat≤90)∨plain.up c=95→c≠39∧c≠34∧c≠64∧c≠46∧dig c=false∧(plain.alpha c=true∨c=95):=by
 have key:∀c:UInt8,(65≤(plain.up c).toNat∧(plain.up c).toNat≤90)∨plain.up c=95→c≠39∧c≠34∧c≠64∧c≠46∧dig c=false∧(plain.alpha c=true∨c=95):=plain.all_bytes (by decide +kernel)
 exact key c
theorem keyword_of {k:Tk} {field:Prop} (hf:FormP k.kind k.raw k.text k.base field) (h1:k.kind≠kEof) (h2:k.kind≠kIdent) (hk:keyword (k.raw.map plain.up)=true):keyword k.kind=true:=by
 have hall:∀c∈k.raw,c≠39∧c≠34∧c≠64∧c≠46∧dig c=false∧(plain.alpha c=true∨c=95):=fun c hc =>
  up_letter (keyword_byte hk (List.mem_map.2 ⟨c,hc,rfl⟩))
 cases hf with
 | eof e=>exact absurd e h1
 | quote e=>exact absurd e h2
 | name e=>exact absurd e h2
 | param _ e =>
  exact absurd rfl (hall 64 (List.mem_of_mem_head? (by rw [e];rfl))).2.2.1
 | int10 _ _ _ e =>
  obtain ⟨c,r,e,hc,_⟩:=e
  have:=(hall c (by rw [e];simp)).2.2.2.2.1
  rw [hc] at this
  cases this
 | int16 _ _ _ e =>
  obtain ⟨d,r,e,_⟩:=e
  have:=(hall 48 (by rw [e];simp)).2.2.2.2.1
  exact absurd this (by decide)
 | float _ _ _ e =>
  obtain ⟨c,d,r,e,hc⟩:=e
  have:=hall c (by rw [e];simp)
  rcases hc with hc|hc
  ·rw [hc] at this
   exact absurd this.2.2.2.2.1 (by decide)
  ·exact absurd hc this.2.2.2.1
 | str _ _ _ e =>
  rcases e with e|e
  ·exact absurd rfl (hall 39 (List.mem_of_getLast? e)).1
  ·exact absurd rfl (hall 34 (List.mem_of_getLast? e)).2.1
 | kw _ e=>exact e
 | sign _ _ _ _ e=>rw [e] at hk;cases hk
end Go.Proofs.YtaamolahbkgofaaGreatDoor.lx
set_option linter.unusedVariables false
namespace Go.Proofs.YtaamolahbkgofaaGreatDoor.lx
/-- A text with the bytes from place p on replaced by others. -/
def putAt (b r:Bs) (p:Nat):Bs:=b.take p++r++b.drop (p+r.length)
theorem putAt_length {b r:Bs} {p:Nat} (h:p+r.length≤b.length):(putAt b r p).length=b.length:=by
 simp only [putAt,List.length_append,List.length_take,List.length_drop]
 omega
theorem putAt_before {b r:Bs} {p x:Nat} (h:p+r.length≤b.length) (hx:x<p):(putAt b r p)[x]?=b[x]?:=by
 rw [putAt,List.append_assoc,List.getElem?_append_left (by simp;omega),List.getElem?_take]
 simp [hx]
theorem putAt_in {b r:Bs} {p x:Nat} (h:p+r.length≤b.length) (hx:p≤x) (hx2:x<p+r.length):(putAt b r p)[x]?=r[x-p]?:=by
 have e:(b.take p).length=p:=by simp;omega
 rw [putAt,List.append_assoc,List.getElem?_append_right (by omega),e,List.getElem?_append_left (by omega)]
theorem putAt_behind {b r:Bs} {p x:Nat} (h:p+r.length≤b.length) (hx:p+r.length≤x):(putAt b r p)[x]?=b[x]?:=by
 have e:(b.take p).length=p:=by simp;omega
 rw [putAt,List.append_assoc,List.getElem?_append_right (by omega),e,List.getElem?_append_right (by omega),List.getElem?_drop]
 congr 1
 omega
structure VarI (s:Bs) (l:List Tk) (k:Nat) (b:Bs):Prop where
 len:b.length=s.length
 var:∀x,b[x]?=s[x]?∨(∃c c',s[x]?=some c∧b[x]?=some c'∧plain.alpha c=true∧plain.up c'=plain.up c∧∃i,∃h:i<l.length,i<k∧keyword l[i].kind=true∧l[i].pos≤x∧x<l[i].fin)
theorem VarI.start (s:Bs) (l:List Tk):VarI s l 0 s:=⟨rfl,fun x=>.inl rfl⟩
theorem VarI.skip {s b:Bs} {l:List Tk} {k:Nat} (h:VarI s l k b):VarI s l (k+1) b :=
 ⟨h.len,fun x=>(h.var x).imp id fun ⟨c,c',h1,h2,h3,h4,i,hi,h5,h6⟩=>⟨c,c',h1,h2,h3,h4,i,hi,by omega,h6⟩⟩
theorem up_flipped {c:UInt8}:plain.alpha c=true→plain.up (plain.flip c)=plain.up c:=by
 have key:∀c:UInt8,plain.alpha c=true→plain.up (plain.flip c)=plain.up c:=plain.all_bytes (by decide +kernel)
 exact key c
theorem VarI.step {s b r:Bs} {l:List Tk} {k a:Nat} (h:VarI s l k b) (hk:k<l.length) (hT:TokOk s a l[k]) (hw:keyword l[k].kind=true) (hr:plain.CaseOf l[k].raw r):VarI s l (k+1) (putAt b r l[k].pos):=by
 have h1:=hT.fin
 have h2:=hT.le
 have h3:=hr.1
 have hlen:=h.len
 have hp:l[k].pos+r.length≤b.length:=by omega
 refine ⟨(putAt_length hp).trans hlen,fun x=>?_⟩
 rcases Nat.lt_or_ge x l[k].pos with hx|hx
 ·rw [putAt_before hp hx]
  exact (h.skip).var x
 rcases Nat.lt_or_ge x (l[k].pos+r.length) with hx2|hx2
 ·rw [putAt_in hp hx hx2]
  have hs:s[x]?=l[k].raw[x-l[k].pos]?:=by
   have e:=hT.raw
   have e2:((s.drop l[k].pos).take l[k].raw.length)[x-l[k].pos]?=l[k].raw[x-l[k].pos]?:=by rw [e]
   rw [List.getElem?_take,if_pos (by omega),List.getElem?_drop] at e2
   rw [←e2]
   congr 1
   omega
  have j1:x-l[k].pos<l[k].raw.length:=by omega
  have j2:x-l[k].pos<r.length:=by omega
  rw [hs,List.getElem?_eq_getElem j1,List.getElem?_eq_getElem j2]
  rcases hr.2 _ j1 j2 with e|⟨ha,e⟩
  ·exact .inl (by rw [e])
  ·exact .inr ⟨_,_,rfl,rfl,ha,by rw [e];exact up_flipped ha,k,hk,Nat.lt_succ_self _,hw,hx,by omega⟩
 ·rw [putAt_behind hp hx2]
  exact (h.skip).var x
theorem VarI.done {s b:Bs} {l:List Tk} {k:Nat} (h:VarI s l k b):Var s b 0 l:=fun x _ =>
 (h.var x).imp id fun ⟨c,c',h1,h2,h3,h4,i,hi,_,h5,h6,h7⟩=>⟨c,c',h1,h2,h3,h4,l[i],List.getElem_mem hi,h5,h6,h7⟩
end Go.Proofs.YtaamolahbkgofaaGreatDoor.lx
set_option linter.unusedVariables false
namespace Go.Proofs.YtaamolahbkgofaaGreatDoor.lex
open Go.RowKit mem
def byteV (x:UInt8):Value:=.int .u8 (x.toNat:Int)
theorem own_put {w wr:World} {bb p:Nat} {b r:List UInt8} (h:OwnB w wr bb b) (hp:p+r.length≤b.length):OwnB w (wr.setCells bb p (r.map byteV)) bb (lx.putAt b r p):=by
 have hl:=lx.putAt_length hp
 have hin:∀j,j<(r.map byteV).length→(wr.cell? ⟨bb,p+j,none⟩).isSome=true:=by
  intro j hj
  rw [List.length_map] at hj
  rw [h.cells (p+j) (by omega)]
  rfl
 refine ⟨Go.below_setCells h.own _ _ _ h.below,h.own,fun j hj=>?_,fun j hj=>?_⟩
 ·have hjb:j<b.length:=by omega
  have e0:(lx.putAt b r p)[j]?=some (lx.putAt b r p)[j]:=List.getElem?_eq_getElem hj
  rcases Nat.lt_or_ge j p with hx|hx
  ·rw [World.cell?_setCells_out bb _ _ _ _ (fun _ _=>.inl hx),h.cells j hjb]
   rw [lx.putAt_before hp hx,List.getElem?_eq_getElem hjb] at e0
   rw [Option.some.inj e0]
  rcases Nat.lt_or_ge j (p+r.length) with hx2|hx2
  ·have j1:j-p<r.length:=by omega
   have hc:=World.cell?_setCells_in bb (r.map byteV) p wr hin (j-p) (by rw [List.length_map];exact j1)
   rw [show p+(j-p)=j by omega] at hc
   rw [hc,List.getElem_map]
   rw [lx.putAt_in hp hx hx2,List.getElem?_eq_getElem j1] at e0
   rw [←Option.some.inj e0]
   rfl
  ·rw [World.cell?_setCells_out bb _ _ _ _ (fun _ _=>.inr (by rw [List.length_map];exact hx2)),h.cells j hjb]
   rw [lx.putAt_behind hp hx2,List.getElem?_eq_getElem hjb] at e0
   rw [Option.some.inj e0]
 ·rw [World.frozen?_setCells]
  exact h.free j (by omega)
end Go.Proofs.YtaamolahbkgofaaGreatDoor.lex
set_option linter.unusedVariables false
set_option linter.unusedSimpArgs false
namespace Go.Proofs.YtaamolahbkgofaaGreatDoor.lex
open Go.RowKit mem lines plain
theorem case_S {w1 W W':World} {y:Nat} {K S R T:ByteArray} {B P F:Int} {cv:Value} (h:W.heap[y]?=some (.cells #[.string K,.string S,.string R,.string T,.int .i64 B,.int .i64 P,.int .i64 F,cv] 29 (0,0))) (hb:Hid (∃b,OwnB w1 W' w1.heap.size b)) (hw:W'.heap[y]?=W.heap[y]?) :
  W'.cell? ⟨y,2,none⟩=some (.string R)∧W'.cell? ⟨y,5,none⟩=some (.int .i64 P)∧W'.cell? ⟨y,6,none⟩=some (.int .i64 F)∧Hid (∃b,OwnB w1 W' w1.heap.size b):=by
 have h':=hw.trans h
 exact ⟨cells_of_heap h' 2,cells_of_heap h' 5,cells_of_heap h' 6,hb⟩
theorem case_put {w1 W:World} {y bb p:Nat} {R:ByteArray} {P F:Int} {bs r:List UInt8} (h:W.cell? ⟨y,2,none⟩=some (.string R)∧W.cell? ⟨y,5,none⟩=some (.int .i64 P)∧W.cell? ⟨y,6,none⟩=some (.int .i64 F)∧Hid (∃b,OwnB w1 W bb b)) (hne:y≠bb) (ho:OwnB w1 W bb bs) (hp:p+r.length≤bs.length) :
  (W.setCells bb p (r.map byteV)).cell? ⟨y,2,none⟩=some (.string R)∧(W.setCells bb p (r.map byteV)).cell? ⟨y,5,none⟩=some (.int .i64 P)∧(W.setCells bb p (r.map byteV)).cell? ⟨y,6,none⟩=some (.int .i64 F)∧Hid (∃b,OwnB w1 (W.setCells bb p (r.map byteV)) bb b):=by
 refine ⟨?_, ?_, ?_,⟨_,own_put ho hp⟩⟩
 ·rw [World.cell?_setCells_out bb _ _ _ _ (fun e _=>absurd e hne)];exact h.1
 ·rw [World.cell?_setCells_out bb _ _ _ _ (fun e _=>absurd e hne)];exact h.2.1
 ·rw [World.cell?_setCells_out bb _ _ _ _ (fun e _=>absurd e hne)];exact h.2.2.1
theorem own_on {w wr w':World} {bb:Nat} {b:List UInt8} (h:OwnB w wr bb b) (hb:Below wr.heap.size wr w'):OwnB w w' bb b:=by
 refine ⟨h.below.trans (hb.mono h.below.size),h.own,fun j hj=>?_,fun j hj=>?_⟩
 ·have hc:=h.cells j hj
  exact (hb.cell (p:=⟨bb,_,none⟩) (lt_of_cell hc)).trans hc
 ·have hc:=h.cells j hj
  exact (World.frozen?_of_block (hb.block bb (lt_of_cell hc))).trans (h.free j hj)
set_option maxHeartbeats 4000000 in
set_option maxRecDepth 100000 in
theorem case_in {w:World} {s:ByteArray} {bits:Int} (hs:s.size≤16384) (hb0:0≤bits) (hb1:bits≤18446744073709551615) (hb:brittleB s=false) (hT:Lib0 w) (hok:(lx.toks false s.data.toList).2=.ok):Calls Tryz.prog 5 #[.string s,.int .u64 bits] w (Yes w):=by
 have h1:(s.size:Int)≤16384:=by omega
 have HL:=Lib.hid (lex_any (w:=w) (s:=s) (by omega) hT (lx.toks_fine false (sound_of hb)).1)
 have HT:=Lib.hid hT
 have HP:=Lib.hid (fun i h=>(lx.toks_steps false s.data.toList).place i h)
 have HL1:=Lib.hid (lx.toks_length false s.data.toList)
 have HL2:=Lib.hid (fun i h=>lx.toks_coms (np:=false) (s:=s.data.toList) i h)
 have HF:=Lib.hid (fun i h=>lx.toks_form s.data.toList i h)
 have HC:=Lib.hid (fun s' h=>lx.toks_case (s:=s.data.toList) (s':=s') hok h)
 have HG:=Lib.hid (fun i h=>((lx.toks_steps false s.data.toList).fact i h).1.bad rfl)
 have HN0:Hid (0<(lx.toks false s.data.toList).1.length):=by obtain ⟨h,_⟩:=lx.toks_last hok;exact h
 have HOK:=Lib.hid (show okB (lx.toks false s.data.toList).2=true by rw [hok];rfl)
 clear hT hok
 go_enter Tryz.func5,Tryz.ntmps5
 go_wp2_with (first|(go_at_call 10;refine (brittle_any s _ (by omega)).mono ?_;rintro e w' ⟨rfl,rfl⟩;rw [hb])|(go_at_call 12;refine HL.out.mono ?_;rintro e w1 ⟨v,z,rfl,ht,hb1⟩;have HB1:=Lib.hid hb1;obtain ⟨b,cap,rfl,hv⟩:=ht.view;have HV:=Lib.hid hv;clear hb1 ht hv;rw [HOK.out];generalize lx.toks false s.data.toList=r at *;obtain ⟨l,en⟩:=r;simp only at HP HV HL1 HL2 HC HF HG HN0 ⊢;have hn1:l.length≤16385:=(by have:=HL1.out;simp at this;omega);obtain ⟨n,hn⟩:∃n,n=l.length:=⟨_,rfl⟩;rw [←hn] at hn1;rw [←hn];have HNN:=Lib.hid hn;clear hn))
 obtain ⟨bc,W1,hconv,hown⟩:=conv_bytes (P:=Tryz.prog) w1 9 37 5 s Tryz.underlying9 Tryz.underlying37 Tryz.underlying5
 have HOWN:=Lib.hid hown
 have hcap:s.size≤bc:=by
  have e:=run_bytes_of_string (P:=Tryz.prog) w1 9 37 5 s Tryz.underlying9 Tryz.underlying37 Tryz.underlying5
  rw [hconv] at e
  injection e with e1 e2
  injection e1 with _ _ e3
  rw [e3]
  exact grownCap_ge _ _ _ _
 have HCAP:=Lib.hid hcap
 clear hcap
 clear hown
 rw [hconv]
 go_simp
 go_wp2_with fail
 have HCV:=Lib.hid hconv
 clear hconv
 go_loopw [39] (fun i wr=>∃(k:Nat) (bs:List UInt8),k≤n∧i=.int .i64 (k:Int)∧Hid (lx.VarI s.data.toList l k bs)∧Hid (OwnB w1 wr w1.heap.size bs)) (fun i _=>n-(intOf i).toNat)
 case atStart=>exact ⟨0,_,Nat.zero_le _,rfl,lx.VarI.start _ _,HOWN.out⟩
 case round =>
  rename World=>wo
  obtain ⟨k,bs,hk,rfl,HVI,HOB⟩:=hrel
  by_cases hlt:k<n
  ·have hz:(k:Int)<(n:Int):=by omega
   have hkl:k<l.length:=by have:=HNN.out;omega
   obtain ⟨g,cv,rfl,hg,ht⟩:=HV.out k hkl
   obtain ⟨cb,ccap,rfl,hcv⟩:=ht.coms.view
   clear hcv
   obtain ⟨t,ht3,ht3'⟩:=ht.text
   obtain ⟨bse,ht4,ht4'⟩:=ht.base
   have HB:Hid (Below w1.heap.size w1 wo):=HOB.out.below
   have q0:=(HB.out.cell (p:=⟨g,_,none⟩) hg).trans ht.kind
   have q1:=(HB.out.cell (p:=⟨g,_,none⟩) hg).trans ht.sp
   have q2:=(HB.out.cell (p:=⟨g,_,none⟩) hg).trans ht.raw
   have q3:=(HB.out.cell (p:=⟨g,_,none⟩) hg).trans ht3
   have q4:=(HB.out.cell (p:=⟨g,_,none⟩) hg).trans ht4
   have q5:=(HB.out.cell (p:=⟨g,_,none⟩) hg).trans ht.pos
   have q6:=(HB.out.cell (p:=⟨g,_,none⟩) hg).trans ht.fin
   have q7:=(HB.out.cell (p:=⟨g,_,none⟩) hg).trans ht.com
   obtain ⟨K,hK⟩:∃K:ByteArray,K=⟨l[k].kind.toArray⟩:=⟨_,rfl⟩
   obtain ⟨R,hR⟩:∃R:ByteArray,R=⟨l[k].raw.toArray⟩:=⟨_,rfl⟩
   rw [←hK] at q0
   rw [←hR] at q2
   have HK:=Lib.hid hK
   have HR:=Lib.hid hR
   clear hK hR ht ht3' ht4' ht3 ht4
   have hrl:R.size≤16384:=by
    have h:=HP.out k hkl
    have h2:=h.fin
    have h3:=h.le
    have e:R.size=l[k].raw.length:=by rw [HR.out];rfl
    simp at h3
    omega
   obtain ⟨W2,hW2⟩:∃W2,W2=wo.alloc (.cells #[.string K,.string ⟨l[k].sp.toArray⟩,.string R,.string t,.int .i64 bse,.int .i64 (l[k].pos:Int),.int .i64 (l[k].fin:Int),.slice cb l[k].coms.length ccap] 29):=⟨_,rfl⟩
   have hY:W2.heap[wo.heap.size]?=some (.cells #[.string K,.string ⟨l[k].sp.toArray⟩,.string R,.string t,.int .i64 bse,.int .i64 (l[k].pos:Int),.int .i64 (l[k].fin:Int),.slice cb l[k].coms.length ccap] 29 (0,0)):=by rw [hW2];exact heap_alloc_new wo _
   have HY:=Lib.hid hY
   have HW2:=Lib.hid hW2
   have HB2:Hid (Below wo.heap.size wo W2):=by rw [hW2];exact below_alloc wo _
   have hz2:W2.heap.size=wo.heap.size+1:=by rw [hW2];simp
   have HZ2:=Lib.hid hz2
   clear hY hW2 hz2
   cases he:(K.toList==[60,101,111,102,62]) with
   | true =>
    go_wp2_with fail
    go_roundw
    case rel=>exact ⟨k+1,bs,by omega,by go_num,HVI.out.skip,by rw [←HW2.out];exact own_on HOB.out HB2.out⟩
    case measure=>simp [intOf];omega
   | false =>
    cases hw:lx.keyword (R.data.toList.map up) with
    | false =>
     go_wp2_with (first|(rw [←HW2.out];go_at_call 17;refine (impl_keyword_any R _ (by omega)).mono ?_;rintro e w5 ⟨rfl,hb5⟩;rw [hw];have HB5:=Lib.hid hb5;clear hb5))
     exact ⟨⟨k+1,bs,by omega,by go_num,HVI.out.skip,own_on (own_on HOB.out HB2.out) HB5.out⟩,by simp [intOf];omega⟩
    | true =>
     cases hi:(K.toList==[60,105,100,101,110,116,62]) with
     | true =>
      go_wp2_with (first|(rw [←HW2.out];go_at_call 17;refine (impl_keyword_any R _ (by omega)).mono ?_;rintro e w5 ⟨rfl,hb5⟩;rw [hw];have HB5:=Lib.hid hb5;have hY5:=(hb5.block wo.heap.size (by rw [HZ2.out];exact Nat.lt_succ_self _)).trans HY.out;have d0:=cells_of_heap hY5 0;clear hb5 hY5))
      exact ⟨⟨k+1,bs,by omega,by go_num,HVI.out.skip,own_on (own_on HOB.out HB2.out) HB5.out⟩,by simp [intOf];omega⟩
     | false =>
      go_wp2_with (first|(rw [←HW2.out];go_at_call 17;refine (impl_keyword_any R _ (by omega)).mono ?_;rintro e w5 ⟨rfl,hb5⟩;rw [hw];have HB5:=Lib.hid hb5;have hY5:=(hb5.block wo.heap.size (by rw [HZ2.out];exact Nat.lt_succ_self _)).trans HY.out;have HY5:=Lib.hid hY5;have d0:=cells_of_heap hY5 0;clear hb5 hY5))
      obtain ⟨P,hP⟩:∃P,P=l[k].pos:=⟨_,rfl⟩
      obtain ⟨F,hF⟩:∃F,F=l[k].fin:=⟨_,rfl⟩
      rw [←hP,←hF] at HY5
      have hto:=HP.out k hkl
      have o2:=hto.fin
      have o3:=hto.le
      have hRr:R.size=l[k].raw.length:=by rw [HR.out];rfl
      rw [←hP,←hF,←hRr] at o2
      rw [←hF] at o3
      have o3':F≤s.size:=by simpa using o3
      have HPP:=Lib.hid hP
      have HOB5:Hid (OwnB w1 w5 w1.heap.size bs):=own_on (own_on HOB.out HB2.out) HB5.out
      clear hP hF hto o3 hRr
      have hcp:=HCAP.out
      have g0:(P:Int)≤(F:Int):=by omega
      have g1:(F:Int)≤(bc:Int):=by omega
      have g2:P≤F:=by omega
      have g3:F≤bc:=by omega
      have hR0:R.size≠0:=by
       intro h0
       have e:R.data.toList=[]:=List.length_eq_zero_iff.1 (by simpa using h0)
       rw [e] at hw
       cases hw
      have g4:P<F:=by omega
      have g5:P<bc:=by omega
      have g6:(P:Int)<(bc:Int):=by omega
      have g7:¬bc-P=0:=by omega
      have g8:¬bc≤P:=by omega
      have g9:¬(bc:Int)≤(P:Int):=by omega
      have g10:¬(bc:Int)-(P:Int)=0:=by omega
      have g11:¬P=bc:=by omega
      have g12:¬bc=P:=by omega
      have HYL:Hid (w1.heap.size<wo.heap.size):=lt_of_cell (HOB.out.cells 0 (by have h1:=HVI.out.len;have h3:s.data.toList.length=s.size:=(by simp);omega))
      have HO2:=Lib.hid o2
      have HO3:=Lib.hid o3'
      clear o2 o3'
      have hs13:=case_S HY5.out (show Hid (∃b,OwnB w1 w5.drew w1.heap.size b) from ⟨_,HOB5.out.drew⟩) rfl
      go_region_held3 (fun W=>W.cell? ⟨wo.heap.size,2,none⟩=some (.string R)∧W.cell? ⟨wo.heap.size,5,none⟩=some (.int .i64 (P:Int))∧W.cell? ⟨wo.heap.size,6,none⟩=some (.int .i64 (F:Int))∧Hid (∃b,OwnB w1 W w1.heap.size b))
       (first|assumption|exact hs13|exact HS6|exact case_put HS6 (by have:=HB.out.size;have:=HOWN.out.below.size;have:=HYL.out;omega) HOB6.out HRL.out)
       (first|(go_at_call 18;refine (texts.turned_any R bits _ (by unfold maxLen;omega) hb0 hb1).mono ?_;rintro e w6 ⟨r,rfl,hc6,hb6⟩;have HB6:=Lib.hid hb6;have HC6:=Lib.hid hc6;have HS6:=case_S (((HB6.out.block wo.heap.size (lt_of_heap HY5.out)).trans HY5.out)) (show Hid (∃b,OwnB w1 w6 w1.heap.size b) from ⟨_,own_on HOB5.out.drew HB6.out⟩) rfl;have HOB6:=Lib.hid (own_on HOB5.out.drew HB6.out);have HRL:Hid (P+r.length≤bs.length):=(by have h1:=HC6.out.1;have h2:=HVI.out.len;have h3:s.data.toList.length=s.size:=(by simp);have h4:R.data.toList.length=R.size:=(by simp);have h5:=HO2.out;have h6:=HO3.out;show _≤_;omega);clear hb6 hc6)|(refine step_copy_string rfl (.tmp 61) (.tmp 65) 37 9 rfl 5 Tryz.underlying37 (fun _=>rfl) w1.heap.size P (F-P) (bc-P) (by simp [Act.eval,Act.put]) ⟨r.toArray⟩ (by simp [Act.eval,Act.put]) (by have h0:=HO2.out;have h1:=HC6.out.1;have h4:R.data.toList.length=R.size:=(by simp);show r.toArray.size≤_;rw [List.size_toArray];omega) (fun j hj=>by have hj':j<r.length:=(by simpa [ByteArray.size] using hj);rw [HOB6.out.cells (P+j) (by have:=HRL.out;omega)];rfl) (fun j hj=>HOB6.out.free _ (by have hj':j<r.length:=(by simpa [ByteArray.size] using hj);have:=HRL.out;omega)) ?_))
      go_wp2_with fail
      have hke:l[k].kind≠lx.kEof:=fun e=>by
       rw [HK.out,e,Lib.toList_data] at he
       exact absurd he (by decide)
      have hki:l[k].kind≠lx.kIdent:=fun e=>by
       rw [HK.out,e,Lib.toList_data] at hi
       exact absurd hi (by decide)
      have hkw:lx.keyword l[k].kind=true:=lx.keyword_of (HF.out k hkl) hke hki (by rw [HR.out] at hw;exact hw)
      have hco:plain.CaseOf l[k].raw r:=by
       have h:=HC6.out
       rw [HR.out] at h
       exact h
      have hvi:=lx.VarI.step HVI.out hkl (HP.out k hkl) hkw hco
      rw [←HPP.out] at hvi
      exact ⟨⟨k+1,_,by omega,by go_num,hvi,own_put HOB6.out HRL.out⟩,by simp [intOf];omega⟩
  ·have hz:¬(k:Int)<(n:Int):=by omega
   have hkn:k=n:=by omega
   have hlen:bs.length=s.size:=by have h:=HVI.out.len;simpa using h
   have hback:=conv_back HOB.out 37 9 5 s.size bc hlen Tryz.underlying37 Tryz.underlying5 Tryz.underlying9
   have hHC:=HC.out bs (by have h:=HVI.out.done;exact h)
   have hok2:=hHC.1
   have HS:=Lib.hid hHC.2
   have HL':=Lib.hid (lex_any (w:=wo) (s:=⟨bs.toArray⟩) (by show bs.toArray.size≤_;rw [List.size_toArray];omega) (HT.out.below (HB1.out.trans (HOB.out.below.mono HB1.out.size))) (by show (lx.toks false bs).2≠_;rw [hok2];exact fun e=>by cases e))
   have HG':=Lib.hid (fun i h=>((lx.toks_steps false (⟨bs.toArray⟩:ByteArray).data.toList).fact i h).1.bad rfl)
   have HOK2:Hid (okB (lx.toks false (⟨bs.toArray⟩:ByteArray).data.toList).2=true):=by show okB (lx.toks false bs).2=true;rw [hok2];rfl
   have HS':Hid (lx.Sames l (lx.toks false (⟨bs.toArray⟩:ByteArray).data.toList).1):=HS.out
   have HN2:Hid ((lx.toks false (⟨bs.toArray⟩:ByteArray).data.toList).1.length=n):=HS.out.length.trans HNN.out.symm
   clear hHC hok2 HS
   obtain ⟨r',hr'⟩:∃r',r'=lx.toks false (⟨bs.toArray⟩:ByteArray).data.toList:=⟨_,rfl⟩
   rw [←hr'] at HOK2 HS' HN2
   rw [←hr'] at HG'
   have HR':=Lib.hid hr'
   clear hr'
   go_wp2_with (first|(go_at_call 12;refine HL'.out.mono ?_;rintro e w3 ⟨v2,z2,rfl,ht2,hb3⟩;rw [←HR'.out] at ht2 ⊢;have HB3:=Lib.hid hb3;obtain ⟨b2,cap2,rfl,hv2⟩:=ht2.view;have HV2:=Lib.hid hv2;clear hb3 ht2 hv2;rw [HOK2.out,HN2.out]))
   go_loopw [86] (fun i wr=>∃j:Nat,j≤n∧i=.int .i64 (j:Int)∧Hid (Below w3.heap.size w3 wr)) (fun i _=>n-(intOf i).toNat)
   case atStart=>exact ⟨0,Nat.zero_le _,rfl,Below.refl _ _⟩
   case round =>
    rename World=>wq
    obtain ⟨j,hj,rfl,HD⟩:=hrel
    have HB:Hid (Below w1.heap.size w1 wq):=(HOB.out.below.trans (HB3.out.mono HOB.out.below.size)).trans (HD.out.mono (Nat.le_trans HOB.out.below.size HB3.out.size))
    by_cases hlt2:j<n
    ·have hz2:(j:Int)<(n:Int):=by omega
     have hjl:j<l.length:=by have:=HNN.out;omega
     have hjl':j<r'.1.length:=by have:=HN2.out;omega
     obtain ⟨g,cv,rfl,hg,ht⟩:=HV.out j hjl
     obtain ⟨g2,cv2,rfl,hg2,hu⟩:=HV2.out j hjl'
     obtain ⟨t,ht3,ht3'⟩:=ht.text
     obtain ⟨bse,ht4,ht4'⟩:=ht.base
     obtain ⟨t2,hu3,hu3'⟩:=hu.text
     obtain ⟨bse2,hu4,hu4'⟩:=hu.base
     have htt:=ht3'.resolve_left (HG.out j hjl)
     have hbb:=ht4'.resolve_left (HG.out j hjl)
     have htt2:=hu3'.resolve_left (HG'.out j hjl')
     have hbb2:=hu4'.resolve_left (HG'.out j hjl')
     obtain ⟨ha,hpos,hfin⟩:=HS'.out.get j hjl hjl'
     rw [ha.text,←htt] at htt2
     rw [ha.base,←hbb] at hbb2
     rw [htt2] at hu3
     rw [hbb2] at hu4
     have q0:=(HB.out.cell (p:=⟨g,_,none⟩) hg).trans ht.kind
     have q3:=(HB.out.cell (p:=⟨g,_,none⟩) hg).trans ht3
     have q4:=(HB.out.cell (p:=⟨g,_,none⟩) hg).trans ht4
     have q5:=(HB.out.cell (p:=⟨g,_,none⟩) hg).trans ht.pos
     have q6:=(HB.out.cell (p:=⟨g,_,none⟩) hg).trans ht.fin
     have p0:=(HD.out.cell (p:=⟨g2,_,none⟩) hg2).trans hu.kind
     have p3:=(HD.out.cell (p:=⟨g2,_,none⟩) hg2).trans hu3
     have p4:=(HD.out.cell (p:=⟨g2,_,none⟩) hg2).trans hu4
     have p5:=(HD.out.cell (p:=⟨g2,_,none⟩) hg2).trans hu.pos
     have p6:=(HD.out.cell (p:=⟨g2,_,none⟩) hg2).trans hu.fin
     rw [ha.kind] at p0
     rw [hpos] at p5
     rw [hfin] at p6
     obtain ⟨K,hK⟩:∃K:ByteArray,K=⟨l[j].kind.toArray⟩:=⟨_,rfl⟩
     obtain ⟨P,hP⟩:∃P:Int,P=(l[j].pos:Int):=⟨_,rfl⟩
     obtain ⟨F,hF⟩:∃F:Int,F=(l[j].fin:Int):=⟨_,rfl⟩
     rw [←hK] at q0 p0
     rw [←hP] at q5 p5
     rw [←hF] at q6 p6
     clear ht hu ht3 ht3' ht4 ht4' hu3 hu3' hu4 hu4' htt htt2 hbb hbb2 ha hpos hfin hK hP hF
     go_wp2_with fail
     go_quiet (fail)
     go_wp2_with fail
     exact ⟨⟨j+1,by omega,by go_num,⟨HD.out.os,HD.out.tape,HD.out.output,HD.out.size,HD.out.block⟩⟩,by simp [intOf];omega⟩
    ·have hz2:¬(j:Int)<(n:Int):=by omega
     have hn0:0<n:=by have:=HN0.out;have:=HNN.out;omega
     have hn0':(0:Int)<(n:Int):=by omega
     go_wp2_with fail
     go_ret
     exact ⟨rfl,HB1.out.trans (HB.out.mono HB1.out.size)⟩
set_option maxHeartbeats 2000000 in
set_option maxRecDepth 100000 in
/-- The first reading ends in a fault: the law says nothing more. -/
theorem case_bad {w:World} {s:ByteArray} {bits:Int} (hs:s.size≤16384) (hb:brittleB s=false) (hT:Lib0 w) (hok:okB (lx.toks false s.data.toList).2=false):Calls Tryz.prog 5 #[.string s,.int .u64 bits] w (Yes w):=by
 have h1:(s.size:Int)≤16384:=by omega
 have HL:=Lib.hid (lex_any (w:=w) (s:=s) (by omega) hT (lx.toks_fine false (sound_of hb)).1)
 have HT:=Lib.hid hT
 have HOK:=Lib.hid hok
 clear hT hok
 go_enter Tryz.func5,Tryz.ntmps5
 go_wp2_with (first|(go_at_call 10;refine (brittle_any s _ (by omega)).mono ?_;rintro e w' ⟨rfl,rfl⟩;rw [hb])|(go_at_call 12;refine HL.out.mono ?_;rintro e w1 ⟨v,z,rfl,ht,hb1⟩;have HB1:=Lib.hid hb1;obtain ⟨b,cap,rfl,hv⟩:=ht.view;clear hb1 ht hv;rw [HOK.out])|(go_at_call 11;refine (lexes_any (HT.out.below HB1.out)).mono ?_;rintro e w2 ⟨rfl,hb2⟩;have HB2:=Lib.hid hb2;clear hb2))
 go_ret
 exact ⟨rfl,HB1.out.trans (HB2.out.mono HB1.out.size)⟩
set_option maxHeartbeats 2000000 in
/-- The walk: where the law says nothing, and where it says something. -/
theorem case_any {w:World} (s:ByteArray) (bits:Int) (hs:s.size≤maxLen) (hb0:0≤bits) (hb1:bits≤18446744073709551615) (hT:Lib0 w):Calls Tryz.prog 5 #[.string s,.int .u64 bits] w (Yes w):=by
 unfold maxLen at hs
 have HT:=Lib.hid hT
 clear hT
 by_cases h0:(2147483647:Int)<(s.size:Int)
 ·go_enter Tryz.func5,Tryz.ntmps5
  go_wp2
  go_ret
  exact ⟨rfl,Below.refl _ _⟩
 by_cases h1:(16384:Int)<(s.size:Int)
 ·go_enter Tryz.func5,Tryz.ntmps5
  go_wp2_with (go_at_call 11;refine (lexes_any HT.out).mono ?_;rintro e w2 ⟨rfl,hb2⟩;have HB2:=Lib.hid hb2;clear hb2)
  go_ret
  exact ⟨rfl,HB2.out⟩
 cases hb:brittleB s with
 | true =>
  have hsz:s.size≤16384:=by omega
  go_enter Tryz.func5,Tryz.ntmps5
  go_wp2_with (first|(go_at_call 10;refine (brittle_any s _ (by omega)).mono ?_;rintro e w' ⟨rfl,rfl⟩;rw [hb])|(go_at_call 11;refine (lexes_any HT.out).mono ?_;rintro e w2 ⟨rfl,hb2⟩;have HB2:=Lib.hid hb2;clear hb2))
  go_ret
  exact ⟨rfl,HB2.out⟩
 | false =>
  cases hok:okB (lx.toks false s.data.toList).2 with
  | false=>exact case_bad (by omega) hb HT.out hok
  | true =>
   refine case_in (by omega) hb0 hb1 hb HT.out ?_
   cases he:(lx.toks false s.data.toList).2 with
   | ok=>rfl
   | fault=>rw [he] at hok;cases hok
   | crash=>rw [he] at hok;cases hok
end Go.Proofs.YtaamolahbkgofaaGreatDoor.lex
set_option linter.unusedVariables false
namespace Go.Proofs.YtaamolahbkgofaaGreatDoor.fnLexCase
open Go.ChangeShapes Go.WideShapes Go.ChangeAt Go.RowKit
open Go.ChangeMaps (open_string shut_string)
open lex
set_option maxRecDepth 100000 in
theorem lifted (os:Os) (started:os.Started) (H:Type) (enc:TypeId × Value→H) :
  ReturnsInHanded {} Tryz.checked os 5 .any (fun w args=>(Rows.fnLexCaseSpec.pre enc Tryz.prog Tryz.f5 [] false w args∧laidMetH Tryz.prog laidAll w)∧sizedMet enc Tryz.prog Tryz.f5 (OpenSpec.ofChange Rows.fnLexCaseSpec) false w args)
   (Rows.fnLexCaseSpec.post enc Tryz.prog Tryz.f5 false true false false):=by
 refine returnsInHanded_of_change_and (C:=Tryz.checked) (X:=fun w _=>laidMetH Tryz.prog laidAll w) (fun _ _ _ hh h=>h.of_heap hh) own started (by kernel_rfl) Tryz.func5
  (ChangeSpec.witness_shaped (enc:=enc) (C:=Tryz.checked) (os:=os) (X:=fun w _=>laidMetH Tryz.prog laidAll w) false (laidWorld os) #[.string ByteArray.empty,.int .u64 0] 8 (laidWorld_os _) (laidWorld_shaped os) (by kernel_rfl) (by kernel_rfl) (by kernel_rfl) (laidWorld_met os _)) ?_
 intro W base args ds gs before hval0 hW _ _ hL _
 have hval:∀(j:Nat) t v,Tryz.f5.params[j]?=some t→args[j]?=some v→Value.okWide Tryz.prog W .any base t v:=hval0
 have hW':=hW
 obtain ⟨p,q,hA0,hV,rfl,hfz,hnd⟩:=hW
 have hA:DataW.TrodAll enc Tryz.prog W 0 (fun _=>true) true Tryz.f5.params.toList args.toList ds p:=hA0
 rw [Tryz.params5] at hA hval
 obtain ⟨v0,vs0,d0,ds0,p0,q0,hargs,rfl,rfl,h0,r0⟩:=trodAll_cons hA
 obtain ⟨v1,vs1,d1,ds1,p1,q1,rfl,rfl,rfl,h1,r1⟩:=trodAll_cons r0
 obtain ⟨rfl,rfl,rfl⟩:=trodAll_nil r1
 obtain rfl:args=#[v0,v1]:=by cases args;simp_all
 obtain ⟨rfl,rfl⟩:=trodVars_none hV
 obtain ⟨a0,rfl,rfl,rfl,w0⟩:=open_string Tryz.underlying9 (hval 0 9 v0 rfl rfl) h0
 obtain ⟨a1,rfl,rfl,rfl,w1⟩:=open_int Tryz.underlying36 (hval 1 36 v1 rfl rfl) h1
 clear hA0 hval0
 simp only [List.append_nil] at hW'
 have k1:0≤a1∧a1≤18446744073709551615:=by simpa [Lit.wf,IntKind.min,IntKind.max,IntKind.signed,IntKind.bits] using w1
 refine (case_any a0 a1 w0 (by omega) (by omega) (lib0_of hL)).mono fun e W' ⟨he,hg⟩=>?_
 subst he
 exact ⟨_,rfl,_,_,_,[],_,[],hW',trodAll_mk1 (shut_bool Tryz.underlying4 _),(trodAll_cons_mk (shut_string Tryz.underlying9 w0) (trodAll_cons_mk (shut_int Tryz.underlying36 w1) trodAll_mk0)),rfl,hg.frame _,fun h=>by cases h⟩
theorem over:Rows.fnLexCaseRow.holds Tryz.pinned (OpenSpec.ofChange Rows.fnLexCaseSpec) :=
 OpenClaim.holds_of_wide 5 Tryz.f5 rfl rfl rfl rfl rfl rfl rfl ⟨rfl,rfl,rfl,rfl,rfl⟩ rfl rfl rfl rfl rfl (by kernel_rfl) Tryz.func5 (by kernel_rfl)
  (of_decide_eq_true (by kernel_rfl)) (by unfold Func.isWrapper;first|(rw [if_pos (by decide +kernel)];kernel_rfl)|(rw [if_neg (by decide +kernel)];exact ⟨rfl,rfl⟩))
  (fun os started H enc _=>lifted os started H enc)
/-- ████ THE STATEMENT ████ -/
theorem proved:Rows.FnLexCaseCardSaid :=
 Claim7.holds_tied_plain_at .later [] [.data,.data,.data,.data,.handle,.sentinel,.sentinel,.listed,.sentinel,.pinned] true (true,"05128834e9706628839b710431c63ece714b33c913076a224a2057ef2449d0f3") true
  over (fun _ h=>by cases h) (by kernel_rfl) (fun _ h=>by cases h) fnLexCase_row_tie rfl ⟨rfl,rfl⟩ (by kernel_rfl) rfl
  (fun f fn hf hfn=>by
   obtain rfl:f=5:=Option.some.inj ((show Tryz.prog.funcNamed "pub-dabber/laws.FnLexCase"=some 5 by kernel_rfl).symm.trans hf) |>.symm
   obtain rfl:fn=Tryz.f5:=(Option.some.inj (Tryz.func5.symm.trans hfn)).symm
   exact ⟨by kernel_rfl,fun j t ht=>by
    rw [Tryz.params5] at ht
    have hm:t∈[9,36]:=by simpa using Array.mem_of_getElem? ht
    have hall:([9,36].all fun u=>!Tryz.prog.wantsStandIn u)=true:=by kernel_rfl
    exact (show Tryz.prog.wantsStandIn t=false by simpa using List.all_eq_true.1 hall t hm)⟩)
  (by kernel_rfl)
#print axioms proved
end Go.Proofs.YtaamolahbkgofaaGreatDoor.fnLexCase
