/-
  Plain lemmas: the statements of a text, and that each of them is one. Plain lemmas: each statement of a text is one statement. Conditions: of each, in its statement.
-/
import Derived.Test.YtaamolahbkgofaaGreatDoorK07
namespace Go.Proofs.YtaamolahbkgofaaGreatDoor.lx
open lex
/-- Where a token, with the comments ahead of it, begins. -/
def Tk.first (k:Tk):Nat:=match k.coms with|[]=>k.pos|c::_=>c.pos
/-- The statements of tokens: where each begins and ends; f: where the statement that is read begins. -/
def cuts:Nat→List Tk→List (Nat × Nat)
 | _,[]=>[]
 | f,k::r =>
  if k.kind=[59] then (f,k.pos)::(match r with|[]=>[]|k2::_=>cuts k2.first r)
  else if k.kind=kEof then (if k.pos=f then [] else [(f,k.pos)])
  else cuts f r
/-- A token read from its blanks' end on is the same. -/
theorem next_skip {p:Nat} {last last':Bs} {dot d:Bool} {t:Bs} {k:Tk} (hd:dotKind last'=dotKind last) (h:nextTok false p last dot t=.tok k d) :
  k.first=p+spaces t∧∃k',nextTok false k.first last' dot (t.drop (spaces t))=.tok k' d∧k'.kind=k.kind∧k'.pos=k.pos∧k'.fin=k.fin:=by
 have hf:k.first=p+spaces t∧∃l a l2 a2,ahead t=(l,some a)∧ahead (t.drop (spaces t))=(l2,some a2)∧comsLen l+a=spaces t+(comsLen l2+a2):=by
  unfold nextTok at h
  cases hcm:comment (t.drop (spaces t)) with
  | open_ =>
   rw [ahead_open hcm] at h
   simp at h
  | no =>
   rw [ahead_no hcm] at h
   simp only at h
   have h2:spaces (t.drop (spaces t))=0:=by rw [spaces_step,if_pos (spLen_spaces t)]
   refine ⟨?_,[],spaces t,[],0,ahead_no hcm, ?_,by simp [comsLen]⟩
   ·cases ho:own false last dot (t.drop (comsLen []+spaces t)) with
    | fault=>rw [ho] at h;cases h
    | crash=>rw [ho] at h;cases h
    | tok kk len text base d0=>rw [ho] at h;cases h;rfl
    | bad len=>rw [ho] at h;cases h;rfl
   ·rw [←h2]
    have hcm':comment ((t.drop (spaces t)).drop (spaces (t.drop (spaces t))))=.no:=by rw [h2,List.drop_zero];exact hcm
    rw [h2] at hcm'
    have:=ahead_no (t:=t.drop (spaces t)) (by rw [h2];exact hcm')
    rw [h2] at this ⊢
    exact this
  | some m =>
   have h2:spaces (t.drop (spaces t))=0:=by rw [spaces_step,if_pos (spLen_spaces t)]
   cases hr:ahead (t.drop (spaces t+m)) with
   | mk l2 a2 =>
    have ha:=ahead_some hcm
    rw [hr] at ha
    have hb:ahead (t.drop (spaces t))=((0,m)::l2,a2):=by
     have:=ahead_some (t:=t.drop (spaces t)) (m:=m) (by rw [h2,List.drop_zero];exact hcm)
     rw [h2,Nat.zero_add,List.drop_drop,hr] at this
     exact this
    rw [ha] at h
    simp only at h
    cases a2 with
    | none=>simp at h
    | some a =>
     simp only at h
     refine ⟨?_,_,a,_,a,ha,hb, ?_⟩
     ·cases ho:own false last dot (t.drop (comsLen ((spaces t,m)::l2)+a)) with
      | fault=>rw [ho] at h;cases h
      | crash=>rw [ho] at h;cases h
      | tok kk len text base d0=>rw [ho] at h;cases h;rfl
      | bad len=>rw [ho] at h;cases h;rfl
     ·simp only [comsLen]
      omega
 refine ⟨hf.1, ?_⟩
 obtain ⟨e1,l,a,l2,a2,h1,h2,h3⟩:=hf
 rw [e1]
 unfold nextTok at h ⊢
 rw [h1] at h
 rw [h2]
 simp only at h ⊢
 rw [List.drop_drop,←h3]
 have hb:=own_good false last dot (t.drop (comsLen l+a))
 cases ho:own false last dot (t.drop (comsLen l+a)) with
 | fault=>rw [ho] at h;cases h
 | crash=>rw [ho] at h;cases h
 | bad len=>rw [ho] at hb;cases hb.1
 | tok kk len text base d0 =>
  rw [ho] at h
  cases h
  have hO:=own_local (t:=t.drop (comsLen l+a)) (t':=t.drop (comsLen l+a)) hd ho ⟨Ups.of rfl,fun _=>rfl,.refl _⟩
  rw [hO]
  refine ⟨_,rfl,rfl, ?_, ?_⟩
  ·show p+spaces t+comsLen l2+a2=p+comsLen l+a
   omega
  ·show p+spaces t+comsLen l2+a2+len=p+comsLen l+a+len
   omega
/-- A text is read to its end, has no semicolon among its tokens, and ends m bytes on. -/
def Plain1 (n p:Nat) (last:Bs) (dot:Bool) (t:Bs) (m:Nat):Prop:=(toksN false n p last dot t).2=.ok∧(∀k∈(toksN false n p last dot t).1,k.kind≠[59])∧(∀k∈(toksN false n p last dot t).1,k.kind=kEof→k.pos=m)
/-- The text up to a token that is a semicolon or the end. -/
theorem ends_local {p p':Nat} {last last':Bs} {dot d:Bool} {t:Bs} {k:Tk} (h:nextTok false p last dot t=.tok k d) (hk:k.kind=[59]∨k.kind=kEof) (n:Nat) :
  Plain1 (n+1) p' last' dot (t.take (k.pos-p)) (p'+(k.pos-p)):=by
 have key:∃d',∃k',nextTok false p' last' dot (t.take (k.pos-p))=.tok k' d'∧k'.kind=kEof∧k'.pos=p'+(k.pos-p):=by
  unfold nextTok at h ⊢
  cases ha:ahead t with
  | mk l a0 =>
   rw [ha] at h
   simp only at h
   cases a0 with
   | none=>simp at h
   | some a =>
    simp only at h
    have hle:=(ahead_le t.length t (Nat.le_refl _)).1 a (by rw [ha])
    rw [ha] at hle
    simp only at hle
    have hp:k.pos-p=comsLen l+a:=by
     cases ho:own false last dot (t.drop (comsLen l+a)) with
     | fault=>rw [ho] at h;cases h
     | crash=>rw [ho] at h;cases h
     | tok kk len text base d0=>rw [ho] at h;cases h;show p+comsLen l+a-p=_;omega
     | bad len=>rw [ho] at h;cases h;show p+comsLen l+a-p=_;omega
    rw [hp]
    have hnil:(t.take (comsLen l+a)).drop (comsLen l+a)=[]:=List.drop_eq_nil_of_le (by rw [List.length_take];omega)
    have hal:=ahead_local t.length t (t.take (comsLen l+a)) l a (Nat.le_refl _) ha (by rw [List.take_take,Nat.min_self]) (by rw [hnil];rfl) (by rw [hnil];rfl) (fun _=>by rw [List.length_take];omega)
    rw [hal]
    simp only
    rw [hnil]
    have ho:own false last' dot []=.tok kEof 0 [] 0 none:=by
     unfold own field token
     cases dot <;> rfl
    rw [ho]
    refine ⟨_,_,rfl,rfl, ?_⟩
    show p'+comsLen l+a=_
    omega
 obtain ⟨d',k',e1,e2,e3⟩:=key
 unfold Plain1
 unfold toksN
 rw [e1]
 simp only
 rw [if_pos e2]
 refine ⟨rfl,fun y hy=>?_,fun y hy _=>?_⟩
 ·have:y=k':=by simpa using hy
  rw [this,e2]
  decide
 ·have:y=k':=by simpa using hy
  rw [this]
  exact e3
/-- The tokens up to the first semicolon, or to the end, and that one. -/
def headEnd:List Tk→Option Tk
 | []=>none
 | k::r=>if k.kind=[59]∨k.kind=kEof then some k else headEnd r
theorem headEnd_ge {np:Bool} {s:Bs}:∀{l:List Tk} {p:Nat} {last:Bs} {dot:Bool} {k:Tk},Steps np s p last dot l→headEnd l=some k→k∈l
 | [],_,_,_,_,_,h=>by cases h
 | x::r,p,last,dot,k,⟨hp,d,hx,hr⟩,h=>by
  unfold headEnd at h
  split at h
  ·cases h;exact List.mem_cons_self
  ·exact List.mem_cons_of_mem _ (headEnd_ge hr h)
theorem head_byte {s:Bs}:∀{l:List Tk} {p:Nat} {last:Bs} {dot:Bool} {k:Tk},Steps false s p last dot l→headEnd l=some k→nb s k.pos=59∨nb s k.pos=256
 | [],_,_,_,_,_,h=>by cases h
 | x::r,p,last,dot,k,⟨hp,d,hx,hr⟩,h=>by
  unfold headEnd at h
  split at h
  ·rename_i hk
   cases h
   have hok:=next_ok hp hx
   rcases hk with hk|hk
   ·left
    have hf:=next_form (field:=True) (fun _=>trivial) hx
    cases hf with
    | eof h1=>rw [h1] at hk;exact absurd hk (by decide)
    | quote h1=>rw [h1] at hk;exact absurd hk (by decide)
    | name h1=>rw [h1] at hk;exact absurd hk (by decide)
    | param h1=>rw [h1] at hk;exact absurd hk (by decide)
    | int10 h1=>rw [h1] at hk;exact absurd hk (by decide)
    | int16 h1=>rw [h1] at hk;exact absurd hk (by decide)
    | float h1=>rw [h1] at hk;exact absurd hk (by decide)
    | str h1=>rcases h1 with h1|h1 <;> rw [h1] at hk <;> exact absurd hk (by decide)
    | kw h1 h2=>rw [hk] at h2;exact absurd h2 (by decide)
    | sign h1 =>
     have e:=hok.raw
     rw [←h1,hk] at e
     have:=congrArg (fun y:Bs=>nb y 0) e
     simp only [List.length_cons,List.length_nil] at this
     have e2:nb ((s.drop x.pos).take (0+1)) 0=nb s x.pos:=by
      unfold nb
      rw [List.getElem?_take,if_pos (by omega),List.getElem?_drop,Nat.add_zero]
     rw [e2] at this
     exact this
   ·right
    have e:=(next_at hx).eof hk
    have h1:=(next_form (field:=True) (fun _=>trivial) hx)
    have hr:x.raw=[]:=by
     cases h1 with
     | eof _ h2=>exact h2
     | quote h1=>rw [h1] at hk;exact absurd hk (by decide)
     | name h1=>rw [h1] at hk;exact absurd hk (by decide)
     | param h1=>rw [h1] at hk;exact absurd hk (by decide)
     | int10 h1=>rw [h1] at hk;exact absurd hk (by decide)
     | int16 h1=>rw [h1] at hk;exact absurd hk (by decide)
     | float h1=>rw [h1] at hk;exact absurd hk (by decide)
     | str h1=>rcases h1 with h1|h1 <;> rw [h1] at hk <;> exact absurd hk (by decide)
     | kw h1 h2=>rw [hk] at h2;exact absurd h2 (by decide)
     | sign h1 _ _ h4=>rw [←h1,hk] at h4;exact absurd h4 (by decide)
    have hf:=hok.fin
    rw [hr,List.length_nil] at hf
    rw [List.length_drop] at e
    unfold nb
    rw [List.getElem?_eq_none (by omega)]
  ·exact head_byte hr h
/-- The text from place p up to a semicolon or the end is read the same, without that semicolon. -/
theorem seg_local {s:Bs}:∀(l:List Tk) (p p':Nat) (last last':Bs) (dot:Bool) (ke:Tk) (n:Nat),dotKind last'=dotKind last→Steps false s p last dot l→headEnd l=some ke→((s.drop p).take (ke.pos-p)).length<n →
  Plain1 n p' last' dot ((s.drop p).take (ke.pos-p)) (p'+(ke.pos-p))
 | [],_,_,_,_,_,_,_,_,_,h,_=>by cases h
 | k::r,p,p',last,last',dot,ke,0,_,_,_,h=>by omega
 | k::r,p,p',last,last',dot,ke,n+1,hd,⟨hp,d,hx,hr⟩,h,hn=>by
  have hbyte:=head_byte (l:=k::r) ⟨hp,d,hx,hr⟩ h
  unfold headEnd at h
  by_cases hk:k.kind=[59]∨k.kind=kEof
  ·rw [if_pos hk] at h
   cases h
   exact ends_local hx hk n
  ·rw [if_neg hk] at h
   have hge:=Steps.ge hr ke (headEnd_ge hr h)
   have hat:=next_at hx
   have hle:=hat.le
   have hpf:=hat.pos
   have hok:=next_ok hp hx
   have hmore:=hat.more (fun e=>hk (.inr e))
   have hke:ke.pos≤s.length:=by
    have h1:=(headEnd_ge hr h)
    obtain ⟨i,hi,e⟩:=List.getElem_of_mem h1
    have:=Steps.place hr i hi
    rw [e] at this
    have h2:=this.fin
    have h3:=this.le
    omega
   have hL:Like k.kind (k.fin-k.pos) ((s.drop p).drop (k.pos-p)) (((s.drop p).take (ke.pos-p)).drop (k.pos-p)):=by
    have e:(((s.drop p).take (ke.pos-p)).drop (k.pos-p)).take (k.fin-k.pos)=((s.drop p).drop (k.pos-p)).take (k.fin-k.pos):=by
     rw [List.drop_take,List.take_take,Nat.min_eq_left (by omega)]
    refine ⟨Ups.of e,fun _=>e, ?_⟩
    rw [nb_drop (s.drop p) (k.pos-p) (k.fin-k.pos),nb_drop ((s.drop p).take (ke.pos-p)) (k.pos-p) (k.fin-k.pos),show k.pos-p+(k.fin-k.pos)=k.fin-p from by omega]
    unfold nb
    rw [List.getElem?_take]
    by_cases hlt:k.fin-p<ke.pos-p
    ·rw [if_pos hlt]
     exact .refl _
    ·rw [if_neg hlt,List.getElem?_drop,show p+(k.fin-p)=ke.pos from by omega]
     have hb:nb s ke.pos=59∨nb s ke.pos=256:=hbyte
     unfold nb at hb
     rcases hb with hb|hb
     ·rw [hb]
      exact .inr (.inl ⟨rfl,rfl⟩)
     ·rw [hb]
      exact .refl _
   obtain ⟨k',e1,e2,e3,e4⟩:=next_local (p':=p') hd hx (t':=(s.drop p).take (ke.pos-p)) (by rw [List.take_take,Nat.min_eq_left (by omega)]) hL
   have hdrop:((s.drop p).take (ke.pos-p)).drop (k'.fin-p')=(s.drop k.fin).take (ke.pos-k.fin):=by
    rw [show k'.fin-p'=k.fin-p from by omega,List.drop_take,List.drop_drop,show p+(k.fin-p)=k.fin from by omega,show ke.pos-p-(k.fin-p)=ke.pos-k.fin from by omega]
   have ih:=seg_local r k.fin k'.fin k.kind k'.kind d ke n (by rw [e2.kind]) hr h (by
    rw [List.length_take,List.length_drop] at hn ⊢
    omega)
   have hne:¬k'.kind=kEof:=by rw [e2.kind];exact fun e=>hk (.inr e)
   unfold Plain1 at ih ⊢
   unfold toksN
   rw [e1]
   simp only
   rw [if_neg hne,hdrop]
   rw [show k'.fin+(ke.pos-k.fin)=p'+(ke.pos-p) from by omega] at ih
   refine ⟨ih.1,fun y hy=>?_,fun y hy hye=>?_⟩
   ·rcases List.mem_cons.1 hy with rfl|hy
    ·rw [e2.kind]
     exact fun e=>hk (.inl e)
    ·exact ih.2.1 y hy
   ·rcases List.mem_cons.1 hy with rfl|hy
    ·exact absurd hye hne
    ·exact ih.2.2 y hy hye
end Go.Proofs.YtaamolahbkgofaaGreatDoor.lx
namespace Go.Proofs.YtaamolahbkgofaaGreatDoor.lx
open lex
/-- A text that is read to its end and has no semicolon among its tokens. -/
def OneOk (t:Bs):Prop:=(toks false t).2=.ok∧(∀k∈(toks false t).1,k.kind≠[59])∧(∀k∈(toks false t).1,k.kind=kEof→k.pos=t.length)
theorem seg_one {s:Bs} {l:List Tk} {f:Nat} {last:Bs} {ke:Tk} (hd:dotKind []=dotKind last) (hs:Steps false s f last false l) (h:headEnd l=some ke) (he:ke.pos≤s.length):f≤ke.pos∧OneOk ((s.drop f).take (ke.pos-f)):=by
 have hm:=headEnd_ge hs h
 have hge:=hs.ge ke hm
 refine ⟨hge.1, ?_⟩
 have:=seg_local l f 0 last [] false ke (((s.drop f).take (ke.pos-f)).length+1) hd hs h (by omega)
 unfold Plain1 at this
 refine ⟨this.1,this.2.1,fun k hk hke=>?_⟩
 have h1:=this.2.2 k hk hke
 rw [h1,List.length_take,List.length_drop]
 omega
theorem headEnd_cons (k:Tk) (r:List Tk):headEnd (k::r)=if k.kind=[59]∨k.kind=kEof then some k else headEnd r:=rfl
theorem cuts_cons (f:Nat) (k:Tk) (r:List Tk):cuts f (k::r) =
  if k.kind=[59] then (f,k.pos)::(match r with|[]=>[]|k2::_=>cuts k2.first r)
  else if k.kind=kEof then (if k.pos=f then [] else [(f,k.pos)])
  else cuts f r:=by
 cases r <;> rfl
/-- What is known of one statement. -/
def CutOk (s:Bs) (x:Nat × Nat):Prop:=x.1≤x.2∧x.2≤s.length∧OneOk ((s.drop x.1).take (x.2-x.1))
theorem cuts_ok {s:Bs}:∀(l:List Tk) (p f:Nat) (last:Bs) (dot:Bool),Steps false s p last dot l→(∀ke,headEnd l=some ke→f≤ke.pos∧OneOk ((s.drop f).take (ke.pos-f)))→∀x∈cuts f l,CutOk s x
 | [],_,_,_,_,_,_,x,hx=>by cases hx
 | k::r,p,f,last,dot,⟨hp,d,hx,hr⟩,H,x,hxm=>by
  have hok:=next_ok hp hx
  have hpl:k.pos≤s.length:=by
   have h1:=hok.fin
   have h2:=hok.le
   omega
  rw [cuts_cons] at hxm
  by_cases h1:k.kind=[59]
  ·rw [if_pos h1] at hxm
   have hH:=H k (by rw [headEnd_cons,if_pos (.inl h1)])
   rcases List.mem_cons.1 hxm with rfl|hxm
   ·exact ⟨hH.1,hpl,hH.2⟩
   ·have hd:d=false:=by
     cases d with
     | false=>rfl
     | true =>
      have:=next_dot hx rfl
      rw [h1] at this
      exact absurd this (by decide)
    subst hd
    cases r with
    | nil=>cases hxm
    | cons k2 r2 =>
     have hr':=hr
     obtain ⟨hp2,d2,hx2,hr2⟩:=hr
     simp only at hxm
     refine cuts_ok (k2::r2) k.fin k2.first k.kind false hr' (fun ke hke=>?_) x hxm
     have hdk:dotKind []=dotKind k.kind:=by rw [h1];decide
     obtain ⟨e1,k2',e2,e3,e4,e5⟩:=next_skip hdk hx2
     have hle2:=(next_at hx2).fin
     rw [List.length_drop] at hle2
     have hok2:=next_ok hp2 hx2
     have hfl:k2.first≤s.length:=by
      have:=spaces_le (s.drop k.fin)
      rw [List.length_drop] at this
      omega
     have hst:Steps false s k2.first [] false (k2'::r2):=by
      refine ⟨hfl,d2, ?_, ?_⟩
      ·rw [List.drop_drop,←e1] at e2
       exact e2
      ·rw [e3,e5]
       exact hr2
     rw [headEnd_cons] at hke
     by_cases hk2:k2.kind=[59]∨k2.kind=kEof
     ·rw [if_pos hk2] at hke
      cases hke
      have:=seg_one (ke:=k2') rfl hst (by rw [headEnd_cons,e3,if_pos hk2]) (by
       rw [e4]
       have a1:=hok2.fin
       have a2:=hok2.le
       omega)
      rwa [e4] at this
     ·rw [if_neg hk2] at hke
      have hm:=headEnd_ge hr2 hke
      obtain ⟨i,hi,e⟩:=List.getElem_of_mem hm
      have hpk:=Steps.place hr2 i hi
      rw [e] at hpk
      exact seg_one rfl hst (by rw [headEnd_cons,e3,if_neg hk2];exact hke) (by
       have a1:=hpk.fin
       have a2:=hpk.le
       omega)
  ·rw [if_neg h1] at hxm
   by_cases h2:k.kind=kEof
   ·rw [if_pos h2] at hxm
    have hH:=H k (by rw [headEnd_cons,if_pos (.inr h2)])
    split at hxm
    ·cases hxm
    ·have:x=(f,k.pos):=by simpa using hxm
     subst this
     exact ⟨hH.1,hpl,hH.2⟩
   ·rw [if_neg h2] at hxm
    exact cuts_ok r k.fin f k.kind d hr (fun ke hke=>H ke (by rw [headEnd_cons,if_neg (by rintro (h|h);exact h1 h;exact h2 h)];exact hke)) x hxm
/-- The statements of a text that is read to its end. -/
def raws (l:List Tk):List (Nat × Nat):=match cuts 0 l with|[]=>[(0,0)]|x::r=>x::r
theorem raws_pos (l:List Tk):0<(raws l).length:=by
 unfold raws
 cases cuts 0 l <;> simp
theorem cuts_one {m:Nat}:∀(l:List Tk) (f:Nat),(∀k∈l,k.kind≠[59])→(∀k∈l,k.kind=kEof→k.pos=m)→(∃k∈l,k.kind=kEof)→cuts f l=if m=f then [] else [(f,m)]
 | [],_,_,_,⟨_,h,_⟩=>by cases h
 | k::r,f,h1,h2,h3=>by
  rw [cuts_cons,if_neg (h1 k List.mem_cons_self)]
  by_cases hk:k.kind=kEof
  ·rw [if_pos hk,h2 k List.mem_cons_self hk]
  ·rw [if_neg hk]
   refine cuts_one r f (fun y hy=>h1 y (List.mem_cons_of_mem _ hy)) (fun y hy=>h2 y (List.mem_cons_of_mem _ hy)) ?_
   obtain ⟨y,hy,he⟩:=h3
   rcases List.mem_cons.1 hy with rfl|hy
   ·exact absurd he hk
   ·exact ⟨y,hy,he⟩
theorem one_raws {t:Bs} (h:OneOk t):raws (toks false t).1=[(0,t.length)]:=by
 obtain ⟨h1,h2⟩:=toks_last h.1
 have:=cuts_one (m:=t.length) (toks false t).1 0 h.2.1 h.2.2 ⟨_,List.getElem_mem _,h2⟩
 unfold raws
 rw [this]
 by_cases hz:t.length=0
 ·rw [if_pos hz,hz]
 ·rw [if_neg hz]
/-- Each statement of a text is one. -/
theorem raws_ok (s:Bs):∀x∈raws (toks false s).1,CutOk s x:=by
 intro x hx
 have hst:=toks_steps false s
 have H:∀ke,headEnd (toks false s).1=some ke→0≤ke.pos∧OneOk ((s.drop 0).take (ke.pos-0)):=by
  intro ke hke
  have hm:=headEnd_ge hst hke
  obtain ⟨i,hi,e⟩:=List.getElem_of_mem hm
  have hpk:=Steps.place hst i hi
  rw [e] at hpk
  exact seg_one rfl hst hke (by
   have a1:=hpk.fin
   have a2:=hpk.le
   omega)
 have hc:=cuts_ok (toks false s).1 0 0 [] false hst H
 unfold raws at hx
 cases hcu:cuts 0 (toks false s).1 with
 | nil =>
  rw [hcu] at hx
  have:x=(0,0):=by simpa using hx
  subst this
  refine ⟨Nat.le_refl _,Nat.zero_le _, ?_⟩
  show OneOk []
  refine ⟨rfl, ?_, ?_⟩ <;> decide
 | cons y r =>
  rw [hcu] at hx hc
  exact hc x hx
end Go.Proofs.YtaamolahbkgofaaGreatDoor.lx
