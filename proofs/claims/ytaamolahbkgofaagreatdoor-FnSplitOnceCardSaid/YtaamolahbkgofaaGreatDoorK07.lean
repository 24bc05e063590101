/-
  Plain lemmas: what stands ahead of a token hangs on its own bytes and the token's first ones. Plain lemmas: a token hangs on its own bytes and the next one alone. Plain lemmas: a token is the same where its own bytes and the next one are the same, or nearly so. Plain lemmas: the next token, and all tokens, of a text that differs from another only where it does not matter. Conditions: of each, in its statement.
-/
import Derived.Test.YtaamolahbkgofaaGreatDoorK06
namespace Go.Proofs.YtaamolahbkgofaaGreatDoor.lx
open lex
theorem seqs_free:(Lib.spaceSeqs.all fun a=>Lib.spaceSeqs.all fun b=>!a.isPrefixOf b||a==b)=true:=by decide +kernel
theorem seqs_ascii:(Lib.spaceSeqs.all fun a=>match a with|[]=>false|c::r=>decide (128≤c.toNat)||(r==[]&&!plain.alpha c))=true:=by decide +kernel
theorem spLen_pos {t:Bs} (h:spLen t≠0):∃q,q∈Lib.spaceSeqs∧q <+: t∧spLen t=q.length:=by
 unfold spLen Lib.headSpace at h ⊢
 cases hf:Lib.spaceSeqs.find? (·.isPrefixOf t) with
 | none=>rw [hf] at h;exact absurd rfl h
 | some q =>
  refine ⟨q,List.mem_of_find?_eq_some hf, ?_,rfl⟩
  have:=List.find?_some hf
  exact List.isPrefixOf_iff_prefix.1 this
theorem spLen_of {t q:Bs} (hq:q∈Lib.spaceSeqs) (hp:q <+: t):spLen t=q.length:=by
 unfold spLen Lib.headSpace
 cases hf:Lib.spaceSeqs.find? (·.isPrefixOf t) with
 | none =>
  have:=List.find?_eq_none.1 hf q hq
  exact absurd (List.isPrefixOf_iff_prefix.2 hp) this
 | some q' =>
  have h1:q' <+: t:=List.isPrefixOf_iff_prefix.1 (List.find?_some (p:=fun x:List UInt8=>x.isPrefixOf t) hf)
  have h2:=List.mem_of_find?_eq_some hf
  have hfree:∀a∈Lib.spaceSeqs,∀b∈Lib.spaceSeqs,a <+: b→a=b:=by
   intro a ha b hb hab
   have:=List.all_eq_true.1 (List.all_eq_true.1 seqs_free a ha) b hb
   rw [List.isPrefixOf_iff_prefix.2 hab] at this
   simpa using this
  show q'.length=q.length
  rcases Nat.le_total q.length q'.length with hl|hl
  ·rw [hfree q hq q' h2 (List.prefix_of_prefix_length_le hp h1 hl)]
  ·rw [hfree q' h2 q hq (List.prefix_of_prefix_length_le h1 hp hl)]
theorem spLen_local {t t':Bs} (h:spLen t≠0) (ht:t'.take (spLen t)=t.take (spLen t)):spLen t'=spLen t:=by
 obtain ⟨q,hq,hp,e⟩:=spLen_pos h
 rw [e]
 refine spLen_of hq ?_
 have:t.take q.length=q:=(List.prefix_iff_eq_take.1 hp).symm
 rw [e,this] at ht
 rw [←ht]
 exact List.take_prefix _ _
theorem spLen_zero {c c':UInt8} {r r':Bs} (hc:c.toNat<128) (h:spLen (c::r)=0) (hs:c'=c∨plain.alpha c'=true):spLen (c'::r')=0:=by
 by_cases hz:spLen (c'::r')=0
 ·exact hz
 ·obtain ⟨q,hq,hp,e⟩:=spLen_pos hz
  have hA:=List.all_eq_true.1 seqs_ascii q hq
  cases q with
  | nil=>cases hA
  | cons d q =>
   have hd:d=c':=(List.cons_prefix_cons.1 hp).1
   subst hd
   rcases hs with rfl|hs
   ·have h1:¬128≤d.toNat:=by omega
    simp [h1] at hA
    have h2:spLen (d::r)=1:=by
     rw [spLen_of hq]
     ·rw [hA.1];rfl
     ·rw [hA.1]
      exact List.cons_prefix_cons.2 ⟨rfl,List.nil_prefix⟩
    omega
   ·have:128≤d.toNat:=by simpa [hs] using hA
    simp [plain.alpha] at hs
    omega
theorem take_drop_eq {t t':Bs} {n k:Nat} (h:t'.take n=t.take n):(t'.drop k).take (n-k)=(t.drop k).take (n-k):=by
 rw [←List.drop_take,←List.drop_take,h]
theorem take_less {t t':Bs} {n k:Nat} (h:t'.take n=t.take n) (hk:k≤n):t'.take k=t.take k:=by
 have:=congrArg (List.take k) h
 rwa [List.take_take,List.take_take,Nat.min_eq_left hk] at this
theorem get_of_take {t t':Bs} {n i:Nat} (h:t'.take n=t.take n) (hi:i<n):t'[i]?=t[i]?:=by
 have:=congrArg (fun l:Bs=>l[i]?) h
 simpa [List.getElem?_take,hi] using this
theorem nb_of_take {t t':Bs} {n i:Nat} (h:t'.take n=t.take n) (hi:i<n):nb t' i=nb t i:=by
 unfold nb
 rw [get_of_take h hi]
theorem spaces_local:∀(n:Nat) (t t':Bs),t.length≤n→t'.take (spaces t)=t.take (spaces t)→spLen (t'.drop (spaces t))=0→spaces t'=spaces t
 | n,t,t',hn,ht,h0=>by
  by_cases hz:spLen t=0
  ·have e:spaces t=0:=by rw [spaces_step,if_pos hz]
   rw [e] at h0 ⊢
   rw [spaces_step,if_pos (by simpa using h0)]
  ·have e:spaces t=spLen t+spaces (t.drop (spLen t)):=by rw [spaces_step,if_neg hz]
   have hl:spLen t'=spLen t:=spLen_local hz (take_less ht (by omega))
   cases n with
   | zero =>
    have:t=[]:=List.length_eq_zero_iff.1 (by omega)
    subst this
    exact absurd rfl hz
   | succ n =>
    have ht2:=take_drop_eq ht (k:=spLen t)
    rw [show spaces t-spLen t=spaces (t.drop (spLen t)) from by omega] at ht2
    have ih:=spaces_local n (t.drop (spLen t)) (t'.drop (spLen t)) (by rw [List.length_drop];have:t≠[]:=(fun e=>by rw [e] at hz;exact hz rfl);have:=List.length_pos_iff.2 this;omega) ht2 (by rw [List.drop_drop,←e];exact h0)
    rw [spaces_step t',hl,if_neg hz,ih,←e]
theorem spLen_le (t:Bs):spLen t≤t.length:=by
 by_cases h:spLen t=0
 ·omega
 ·obtain ⟨q,hq,hp,e⟩:=spLen_pos h
  rw [e]
  exact hp.length_le
theorem spLen_spaces:∀t:Bs,spLen (t.drop (spaces t))=0:=by
 have key:∀(n:Nat) (t:Bs),t.length≤n→spLen (t.drop (spaces t))=0:=by
  intro n
  induction n with
  | zero =>
   intro t h
   have:t=[]:=List.length_eq_zero_iff.1 (by omega)
   subst this
   rfl
  | succ n ih =>
   intro t h
   by_cases hz:spLen t=0
   ·rw [spaces_step,if_pos hz]
    exact hz
   ·rw [spaces_step,if_neg hz,←List.drop_drop]
    exact ih _ (by rw [List.length_drop];have:=spLen_le t;omega)
 exact fun t=>key t.length t (Nat.le_refl _)
theorem comment_first {c:UInt8} {r:Bs} {m:Nat} (h:comment (c::r)=.some m):c.toNat=35∨c.toNat=45∨c.toNat=47:=by
 unfold comment at h
 by_cases h1:nb (c::r) 0=35∨(nb (c::r) 0=45∧nb (c::r) 1=45)
 ·rcases h1 with h1|h1
  ·exact .inl h1
  ·exact .inr (.inl h1.1)
 ·rw [if_neg h1] at h
  by_cases h2:nb (c::r) 0=47∧nb (c::r) 1=42
  ·exact .inr (.inr h2.1)
  ·rw [if_neg h2] at h
   cases h
theorem lineEnd_local:∀(u u':Bs),u'.take (lineEnd u)=u.take (lineEnd u)→(lineEnd u=u.length→u'.length≤lineEnd u)→lineEnd u'=lineEnd u
 | [],u',h,hl=>by
  have h0:u'.length≤0:=hl rfl
  have:u'=[]:=List.length_eq_zero_iff.1 (by omega)
  rw [this]
 | c::r,u',h,hl=>by
  rw [lineEnd_cons] at h hl ⊢
  by_cases hc:c.toNat=10
  ·rw [if_pos hc] at h hl ⊢
   cases u' with
   | nil=>simp at h
   | cons d r' =>
    have:d=c:=by simpa using h
    rw [lineEnd_cons,this,if_pos hc]
  ·rw [if_neg hc] at h hl ⊢
   cases u' with
   | nil=>rw [Nat.add_comm] at h;simp at h
   | cons d r' =>
    rw [Nat.add_comm,List.take_succ_cons,List.take_succ_cons] at h
    injection h with h1 h2
    subst h1
    rw [lineEnd_cons,if_neg hc,lineEnd_local r r' h2 (fun e=>by have:=hl (by rw [e];simp;omega);simp at this;omega)]
theorem blockEnd_local:∀(u u':Bs) (m:Nat),blockEnd u=some m→u'.take m=u.take m→blockEnd u'=some m
 | [],u',m,h,_=>by cases h
 | c::r,u',m,h,ht=>by
  have hm:=blockEnd_size _ _ h
  unfold blockEnd at h
  cases u' with
  | nil =>
   cases m with
   | zero=>omega
   | succ m=>simp at ht
  | cons d r' =>
   cases m with
   | zero=>omega
   | succ m =>
    rw [List.take_succ_cons,List.take_succ_cons] at ht
    injection ht with h1 h2
    subst h1
    unfold blockEnd
    by_cases hc:d.toNat=42∧nb r 0=47
    ·rw [if_pos hc] at h
     cases h
     rw [if_pos ⟨hc.1,by rw [nb_of_take h2 (by omega)];exact hc.2⟩]
    ·rw [if_neg hc] at h
     cases hb:blockEnd r with
     | none=>rw [hb] at h;cases h
     | some k =>
      rw [hb] at h
      have e:k=m:=by simpa using h
      subst e
      have hk:=blockEnd_size _ _ hb
      have hz:¬(d.toNat=42∧nb r' 0=47):=by
       rw [nb_of_take h2 (by omega)]
       exact hc
      rw [if_neg hz,blockEnd_local r r' k hb h2]
      rfl
theorem comment_local {u u':Bs} {m:Nat} (h:comment u=.some m) (ht:u'.take m=u.take m) (hl:m=u.length→u'.length≤m):comment u'=.some m:=by
 have hm:=comment_size h
 unfold comment at h ⊢
 by_cases h1:nb u 0=35∨(nb u 0=45∧nb u 1=45)
 ·rw [if_pos h1] at h
  have e:lineEnd u=m:=by cases h;rfl
  subst e
  have h2:2≤lineEnd u∨nb u 0=35:=by
   rcases h1 with h1|⟨h1,h2⟩
   ·exact .inr h1
   ·left
    cases u with
    | nil=>exact absurd h1 (by decide)
    | cons c r =>
     have hc:c.toNat=45:=h1
     rw [lineEnd_cons,if_neg (by omega)]
     have:1≤lineEnd r:=lineEnd_pos r (by rintro rfl;exact absurd (show (256:Nat)=45 from h2) (by decide))
     omega
  have h1':nb u' 0=35∨(nb u' 0=45∧nb u' 1=45):=by
   rw [nb_of_take ht (by omega)]
   rcases h1 with h1|h1
   ·exact .inl h1
   ·rcases h2 with h2|h2
    ·rw [nb_of_take ht (by omega)]
     exact .inr h1
    ·exact .inl h2
  rw [if_pos h1',lineEnd_local u u' ht hl]
 ·rw [if_neg h1] at h
  by_cases h2:nb u 0=47∧nb u 1=42
  ·rw [if_pos h2] at h
   cases hb:blockEnd u with
   | none=>rw [hb] at h;cases h
   | some k =>
    rw [hb] at h
    cases h
    have hk:2≤m:=by
     cases u with
     | nil=>cases hb
     | cons c r =>
      unfold blockEnd at hb
      rw [if_neg (by intro e;have:c.toNat=47:=h2.1;omega)] at hb
      cases hr:blockEnd r with
      | none=>rw [hr] at hb;cases hb
      | some j =>
       rw [hr] at hb
       have:=blockEnd_size _ _ hr
       have e:j+1=m:=by simpa using hb
       omega
    rw [if_neg (by rw [nb_of_take ht (by omega),nb_of_take ht (by omega)];exact h1),if_pos (by rw [nb_of_take ht (by omega),nb_of_take ht (by omega)];exact h2),blockEnd_local u u' m hb ht]
  ·rw [if_neg h2] at h
   cases h
theorem ahead_local:∀(n:Nat) (t t':Bs) (l:List (Nat × Nat)) (a:Nat),t.length≤n→ahead t=(l,some a)→t'.take (comsLen l+a)=t.take (comsLen l+a)→spLen (t'.drop (comsLen l+a))=0→comment (t'.drop (comsLen l+a))=.no →
  (comsLen l+a=t.length→t'.length≤comsLen l+a)→ahead t'=(l,some a)
 | n,t,t',l,a,hn,h,ht,h0,hc,hl=>by
  cases hcm:comment (t.drop (spaces t)) with
  | open_=>rw [ahead_open hcm] at h;cases h
  | no =>
   rw [ahead_no hcm] at h
   cases h
   simp only [comsLen,Nat.zero_add] at ht h0 hc
   have e:=spaces_local t.length t t' (Nat.le_refl _) ht h0
   rw [←e] at hc
   rw [ahead_no hc,e]
  | some m =>
   have hm:=comment_size hcm
   rw [List.length_drop] at hm
   rw [ahead_some hcm] at h
   cases n with
   | zero=>omega
   | succ n =>
    cases hr:ahead (t.drop (spaces t+m)) with
    | mk l2 a2 =>
     rw [hr] at h
     injection h with hx hy
     simp only at hx hy
     subst hx hy
     simp only [comsLen] at ht h0 hc hl
     have h1:t'.take (spaces t)=t.take (spaces t):=take_less ht (by omega)
     have h2:=take_drop_eq ht (k:=spaces t)
     have h3:(t'.drop (spaces t)).take m=(t.drop (spaces t)).take m:=take_less h2 (by omega)
     have hal:=(ahead_le (t.drop (spaces t+m)).length (t.drop (spaces t+m)) (Nat.le_refl _)).1 a (by rw [hr])
     rw [hr,List.length_drop] at hal
     simp only at hal
     have h4:comment (t'.drop (spaces t))=.some m:=comment_local hcm h3 (fun e=>by
      rw [List.length_drop] at e
      have:=hl (by omega)
      rw [List.length_drop]
      omega)
     have h5:spLen (t'.drop (spaces t))=0:=by
      have hsp:spLen (t.drop (spaces t))=0:=spLen_spaces t
      cases hd:t.drop (spaces t) with
      | nil=>rw [hd] at hcm;rw [comment_nil] at hcm;cases hcm
      | cons c r =>
       rw [hd] at hcm hsp h3
       cases hd':t'.drop (spaces t) with
       | nil =>
        rw [hd'] at h3
        cases m with
        | zero=>omega
        | succ m=>simp at h3
       | cons c' r' =>
        rw [hd'] at h3
        cases m with
        | zero=>omega
        | succ m =>
         rw [List.take_succ_cons,List.take_succ_cons] at h3
         injection h3 with e1 _
         subst e1
         refine spLen_zero (c:=c') ?_ hsp (.inl rfl)
         have hcc:=comment_first hcm
         omega
     have h6:=spaces_local t.length t t' (Nat.le_refl _) h1 h5
     have ih:=ahead_local n (t.drop (spaces t+m)) (t'.drop (spaces t+m)) l2 a (by rw [List.length_drop];omega) hr
      (by have:=take_drop_eq ht (k:=spaces t+m);rw [show spaces t+m+comsLen l2+a-(spaces t+m)=comsLen l2+a from by omega] at this;exact this)
      (by rw [List.drop_drop,←Nat.add_assoc];exact h0) (by rw [List.drop_drop,←Nat.add_assoc];exact hc)
      (fun e=>by rw [List.length_drop] at e ⊢;have:=hl (by omega);omega)
     rw [←h6] at h4
     rw [ahead_some h4,h6,ih]
end Go.Proofs.YtaamolahbkgofaaGreatDoor.lx
namespace Go.Proofs.YtaamolahbkgofaaGreatDoor.lx
open lex
def Let (n:Nat):Prop:=(97≤n∧n≤122)∨(65≤n∧n≤90)
/-- What may stand behind a token in the place of a: the same; the end, where a semicolon stood; a letter for a letter. -/
def Kin (a b:Nat):Prop:=a=b∨(a=59∧b=256)∨(Let a∧Let b)
theorem Kin.refl (a:Nat):Kin a a:=.inl rfl
theorem Kin.id {a b:Nat} (h:Kin a b):isId b=isId a:=by
 unfold Kin Let at h
 rw [Bool.eq_iff_iff]
 simp only [isId,decide_eq_true_eq]
 omega
theorem Kin.idS {a b:Nat} (h:Kin a b):isIdS b=isIdS a:=by
 unfold Kin Let at h
 rw [Bool.eq_iff_iff]
 simp only [isIdS,decide_eq_true_eq]
 omega
theorem Kin.dg {a b:Nat} (h:Kin a b):isDg b=isDg a:=by
 unfold Kin Let at h
 rw [Bool.eq_iff_iff]
 simp only [isDg,decide_eq_true_eq]
 omega
theorem Kin.eq {a b v:Nat} (h:Kin a b) (hv:¬Let v) (h59:v≠59) (h256:v≠256):b=v↔a=v:=by
 unfold Kin Let at h
 unfold Let at hv
 omega
theorem Kin.not {a b:Nat} (h:Kin a b) (hi:isId a=false):b=a∨(a=59∧b=256):=by
 unfold Kin Let at h
 simp only [isId,decide_eq_false_iff_not] at hi
 omega
theorem nb_end {t:Bs} (h:nb t 0=256):t=[]:=by
 cases t with
 | nil=>rfl
 | cons c r =>
  have:c.toNat=256:=h
  have:=c.toNat_lt
  omega
theorem nb_drop (t:Bs) (k i:Nat):nb (t.drop k) i=nb t (k+i):=by
 unfold nb
 rw [List.getElem?_drop]
theorem head_of {t t':Bs} {c:UInt8} {r:Bs} {m:Nat} (ht:t=c::r) (h:t'.take (m+1)=t.take (m+1)):∃r',t'=c::r'∧r'.take m=r.take m:=by
 subst ht
 cases t' with
 | nil=>simp at h
 | cons d r' =>
  rw [List.take_succ_cons,List.take_succ_cons] at h
  injection h with h1 h2
  exact ⟨r',by rw [h1],h2⟩
/-! ### Within quotes -/
theorem escape_hit {size:Nat} {good:UInt8→Bool} {r content c':Bs} {hit:Step} {k:Nat} {e':Bool} (h:escape false size good r content hit=.more k c' e'):size≤r.length∧(r.take size).all good=true∧hit=.more k c' e':=by
 unfold escape at h
 by_cases hh:size≤r.length∧(r.take size).all good=true
 ·rw [if_pos hh] at h
  exact ⟨hh.1,hh.2,h⟩
 ·rw [if_neg hh,if_neg (by simp)] at h
  split at h <;> cases h
theorem escape_same {size:Nat} {good:UInt8→Bool} {r r2 content:Bs} {hit:Step} (hs:size≤r.length) (ha:(r.take size).all good=true) (he:r2.take size=r.take size):escape false size good r2 content hit=hit:=by
 unfold escape
 have h1:size≤r2.length:=by
  have:=congrArg List.length he
  rw [List.length_take,List.length_take] at this
  omega
 rw [if_pos ⟨h1,by rw [he];exact ha⟩]
theorem qStep_more_local {q:Bs} {raw uni idn:Bool} {i k:Nat} {u u' content c':Bs} {err e':Bool} (hq:1≤q.length) (h:qStep q raw uni idn false i u content err=.more k c' e') (hu:u'.take (k+q.length)=u.take (k+q.length)) :
  qStep q raw uni idn false i u' content err=.more k c' e':=by
 have hk:=qStep_more h
 cases u with
 | nil=>unfold qStep at h;simp at h
 | cons c r =>
  obtain ⟨r2,rfl,h2⟩:=head_of (t':=u') (m:=k+q.length-1) rfl (by rw [show k+q.length-1+1=k+q.length from by omega];exact hu)
  have hqq:(c::r2).take q.length=(c::r).take q.length:=take_less hu (by omega)
  unfold qStep at h ⊢
  simp only at h ⊢
  by_cases h1:(c::r).take q.length=q
  ·rw [if_pos h1] at h
   split at h
   iterate 2
    ·split at h <;> cases h
  ·rw [if_neg h1] at h
   rw [if_neg (by rw [hqq];exact h1)]
   by_cases hc:c.toNat=92
   ·rw [if_pos hc] at h ⊢
    cases r with
    | nil=>simp at h
    | cons d r' =>
     obtain ⟨r2',rfl,h3⟩:=head_of (t':=r2) (m:=k+q.length-2) rfl (by rw [show k+q.length-2+1=k+q.length-1 from by omega];exact h2)
     simp only at h ⊢
     by_cases hr:raw=true
     ·rw [if_pos hr] at h ⊢
      exact h
     ·rw [if_neg hr] at h ⊢
      cases hs:simple d with
      | some x =>
       rw [hs] at h
       exact h
      | none =>
       rw [hs] at h
       simp only at h ⊢
       by_cases hx:d.toNat=120∨d.toNat=88
       ·rw [if_pos hx] at h ⊢
        obtain ⟨a1,a2,a3⟩:=escape_hit h
        cases a3
        have e:=take_less h3 (k:=2) (by omega)
        rw [escape_same a1 a2 e,e]
       ·rw [if_neg hx] at h ⊢
        by_cases hU:d.toNat=117∨d.toNat=85
        ·rw [if_pos hU] at h ⊢
         cases huni:uni with
         | false=>rw [huni] at h;simp at h
         | true =>
          rw [huni] at h
          rw [if_pos rfl] at h ⊢
          generalize (if d.toNat=85 then 8 else 4)=sz at h ⊢
          obtain ⟨a1,a2,a3⟩:=escape_hit h
          by_cases hbad:(55296≤digits 16 0 (r'.take sz)∧digits 16 0 (r'.take sz)≤57343)∨1114111<digits 16 0 (r'.take sz)
          ·rw [if_pos hbad] at a3
           simp at a3
          ·rw [if_neg hbad] at a3
           cases a3
           have e:=take_less h3 (k:=sz) (by omega)
           rw [escape_same a1 a2 e,e,if_neg hbad]
        ·rw [if_neg hU] at h ⊢
         by_cases ho:48≤d.toNat∧d.toNat≤51
         ·rw [if_pos ho] at h ⊢
          obtain ⟨a1,a2,a3⟩:=escape_hit h
          cases a3
          have e:=take_less h3 (k:=2) (by omega)
          rw [escape_same a1 a2 e,e]
         ·rw [if_neg ho] at h
          simp at h
   ·rw [if_neg hc] at h ⊢
    exact h
theorem qStep_ok_local {q:Bs} {raw uni idn:Bool} {i len:Nat} {u u' content c:Bs} {err:Bool} (hq:1≤q.length) (h:qStep q raw uni idn false i u content err=.stop (.ok len c)) (hu:u'.take q.length=u.take q.length) :
  qStep q raw uni idn false i u' content err=.stop (.ok len c):=by
 rcases qStep_stop h with ⟨l,c1,ho,h1,h2,h3,h4⟩|⟨l,ho,_⟩|ho|ho
 ·cases ho
  cases u with
  | nil=>unfold qStep at h;simp at h
  | cons x r =>
   obtain ⟨r2,rfl,_⟩:=head_of (t':=u') (m:=q.length-1) rfl (by rw [show q.length-1+1=q.length from by omega];exact hu)
   unfold qStep at h ⊢
   simp only at h ⊢
   rw [if_pos h1] at h
   rw [if_pos (by rw [hu];exact h1)]
   exact h
 iterate 3
  ·cases ho
theorem quoN_len {q:Bs} {raw uni idn np:Bool} {n i:Nat} {u content:Bs} {err:Bool} {len:Nat} {c:Bs} (h:quoN q raw uni idn np n i u content err=.ok len c):i+q.length≤len∧len≤i+u.length:=by
 obtain ⟨j,h1,h2,h3,h4,_⟩:=quoN_ok (t:=List.replicate i 0++u) n i u content err len c (by simp) (by simp) h
 simp at h4
 exact ⟨by omega,h4⟩
theorem quoN_local {q:Bs} {raw uni idn:Bool} (hq:1≤q.length):∀(n n' i:Nat) (u u' content:Bs) (err:Bool) (len:Nat) (c:Bs),quoN q raw uni idn false n i u content err=.ok len c→u'.take (len-i)=u.take (len-i)→u'.length<n' →
  quoN q raw uni idn false n' i u' content err=.ok len c
 | 0,_,_,_,_,_,_,_,_,h,_,_=>by cases h
 | n+1,0,_,_,_,_,_,_,_,_,_,hn=>by omega
 | n+1,n'+1,i,u,u',content,err,len,c,h,hu,hn=>by
  have hl:=quoN_len h
  unfold quoN at h ⊢
  cases hs:qStep q raw uni idn false i u content err with
  | stop o =>
   rw [hs] at h
   simp only at h
   subst h
   rw [qStep_ok_local hq hs (take_less hu (by omega))]
  | more k c' e' =>
   rw [hs] at h
   simp only at h
   have hl2:=quoN_len h
   have hk:=qStep_more hs
   rw [qStep_more_local hq hs (take_less hu (by omega))]
   simp only
   refine quoN_local hq n n' (i+k) (u.drop k) (u'.drop k) c' e' len c h ?_ ?_
   ·have:=take_drop_eq hu (k:=k)
    rw [show len-i-k=len-(i+k) from by omega] at this
    exact this
   ·have hk2:=congrArg List.length hu
    rw [List.length_take,List.length_take] at hk2
    rw [List.length_drop]
    omega
theorem quoted_local {q:Bs} {raw uni idn:Bool} {t t':Bs} {len:Nat} {c:Bs} (hq:1≤q.length) (h:quoted q raw uni idn false t=.ok len c) (ht:t'.take len=t.take len):quoted q raw uni idn false t'=.ok len c:=by
 unfold quoted at h ⊢
 exact quoN_local hq _ _ _ _ _ _ _ _ _ h (take_drop_eq ht) (by rw [List.length_drop];omega)
/-! ### Numbers -/
theorem numScan_dig {n:Nat} {int exp:Bool} {c:UInt8} {r:Bs} (h:dig c=true):1≤(numScan false (n+1) int exp (c::r)).1:=by
 unfold numScan
 rw [if_pos (by simp [h])]
 show 1≤_+1
 omega
theorem numScan_nil (b16:Bool) (n:Nat) (int exp:Bool):numScan b16 n int exp []=(0,int):=by
 cases n <;> rfl
theorem numScan_cons (b16:Bool) (n:Nat) (int exp:Bool) (c:UInt8) (r:Bs):numScan b16 (n+1) int exp (c::r) =
  if !b16&&dig c then ((numScan b16 n int exp r).1+1,(numScan b16 n int exp r).2)
  else if b16&&hex c then ((numScan b16 n int exp r).1+1,(numScan b16 n int exp r).2)
  else if !exp&&int&&!b16&&c.toNat==46 then ((numScan b16 n false exp r).1+1,(numScan b16 n false exp r).2)
  else if !exp&&!b16&&(c.toNat==69||c.toNat==101) then
   (if nb r 0=43∨nb r 0=45 then
    (if 48≤nb r 1∧nb r 1≤57 then ((numScan b16 n false true (r.drop 1)).1+2,(numScan b16 n false true (r.drop 1)).2) else (0,int))
   else (if 48≤nb r 0∧nb r 0≤57 then ((numScan b16 n false true r).1+1,(numScan b16 n false true r).2) else (0,int)))
  else (0,int):=rfl
theorem digit_head {r:Bs} (h:48≤nb r 0∧nb r 0≤57):∃d r',r=d::r'∧dig d=true:=by
 cases r with
 | nil=>exact absurd h.2 (by decide)
 | cons d r'=>exact ⟨d,r',rfl,by simpa [dig,nb] using h⟩
/-- What is asked of another text so that the number there is the same. -/
structure Nears (m:Nat) (t t':Bs):Prop where
 no:isId (nb t m)=false
 take:t'.take m=t.take m
 kin:Kin (nb t m) (nb t' m)
theorem Nears.tail {m:Nat} {c:UInt8} {r t':Bs} (h:Nears (m+1) (c::r) t'):∃r',t'=c::r'∧Nears m r r':=by
 obtain ⟨r',rfl,h2⟩:=head_of rfl h.take
 exact ⟨r',rfl,h.no,h2,h.kin⟩
theorem numScan_local {b16:Bool}:∀(n n':Nat) (int exp:Bool) (t t':Bs),t.length≤n→t'.length≤n'→Nears (numScan b16 n int exp t).1 t t'→numScan b16 n' int exp t'=numScan b16 n int exp t
 | n,n',int,exp,[],t',_,_,h=>by
  rw [numScan_nil] at h ⊢
  have hk:Kin 256 (nb t' 0):=h.kin
  have:=nb_end (t:=t') (by unfold Kin Let at hk;omega)
  rw [this,numScan_nil]
 | 0,n',int,exp,c::r,t',hn,_,_=>by simp at hn
 | n+1,n',int,exp,c::r,t',hn,hn',h=>by
  simp only [List.length_cons] at hn
  have key:∀(i2 e2:Bool) (r':Bs),r'.length<n'→Nears (numScan b16 n i2 e2 r).1 r r'→numScan b16 (n' - 1) i2 e2 r'=numScan b16 n i2 e2 r:=fun i2 e2 r' h1 h2=>numScan_local n (n' - 1) i2 e2 r r' (by omega) (by omega) h2
  rw [numScan_cons] at h ⊢
  by_cases h1:(!b16&&dig c)=true
  ·rw [if_pos h1] at h ⊢
   obtain ⟨r',rfl,h2⟩:=h.tail
   simp only [List.length_cons] at hn'
   rw [show n'=n' - 1+1 from by omega,numScan_cons,if_pos h1,key int exp r' (by omega) h2]
  ·rw [if_neg h1] at h ⊢
   by_cases h2:(b16&&hex c)=true
   ·rw [if_pos h2] at h ⊢
    obtain ⟨r',rfl,h3⟩:=h.tail
    simp only [List.length_cons] at hn'
    rw [show n'=n' - 1+1 from by omega,numScan_cons,if_neg h1,if_pos h2,key int exp r' (by omega) h3]
   ·rw [if_neg h2] at h ⊢
    by_cases h3:(!exp&&int&&!b16&&c.toNat==46)=true
    ·rw [if_pos h3] at h ⊢
     obtain ⟨r',rfl,h4⟩:=h.tail
     simp only [List.length_cons] at hn'
     rw [show n'=n' - 1+1 from by omega,numScan_cons,if_neg h1,if_neg h2,if_pos h3,key false exp r' (by omega) h4]
    ·rw [if_neg h3] at h ⊢
     by_cases h4:(!exp&&!b16&&(c.toNat==69||c.toNat==101))=true
     ·rw [if_pos h4] at h ⊢
      have hid:isId (nb (c::r) 0)=true:=by
       simp at h4
       show isId c.toNat=true
       simp only [isId,decide_eq_true_eq]
       omega
      have hb16:b16=false:=by simp at h4;exact h4.1.2
      subst hb16
      by_cases h5:nb r 0=43∨nb r 0=45
      ·rw [if_pos h5] at h ⊢
       by_cases h6:48≤nb r 1∧nb r 1≤57
       ·rw [if_pos h6] at h ⊢
        obtain ⟨r',rfl,h7⟩:=h.tail
        simp only [List.length_cons] at hn'
        have hd:48≤nb (r.drop 1) 0∧nb (r.drop 1) 0≤57:=by rw [nb_drop];exact h6
        obtain ⟨d,r2,e,hdd⟩:=digit_head hd
        have hrl:2≤r.length:=by
         have:=congrArg List.length e
         rw [List.length_drop,List.length_cons] at this
         omega
        have hp:1≤(numScan false n false true (r.drop 1)).1:=by
         rw [e,show n=n-1+1 from by omega]
         exact numScan_dig hdd
        have e0:nb r' 0=nb r 0:=nb_of_take h7.take (by omega)
        have e1:nb r' 1=nb r 1:=nb_of_take h7.take (by omega)
        have hN:Nears (numScan false n false true (r.drop 1)).1 (r.drop 1) (r'.drop 1):=by
         refine ⟨?_, ?_, ?_⟩
         ·rw [nb_drop,Nat.add_comm];exact h7.no
         ·have:=take_drop_eq h7.take (k:=1)
          simpa using this
         ·rw [nb_drop,nb_drop,Nat.add_comm];exact h7.kin
        have:=numScan_local n (n' - 1) false true (r.drop 1) (r'.drop 1) (by rw [List.length_drop];omega) (by rw [List.length_drop];omega) hN
        rw [show n'=n' - 1+1 from by omega,numScan_cons,if_neg h1,if_neg h2,if_neg h3,if_pos h4,if_pos (by rw [e0];exact h5),if_pos (by rw [e1];exact h6),this]
       ·rw [if_neg h6] at h
        have:=h.no
        rw [hid] at this
        cases this
      ·rw [if_neg h5] at h ⊢
       by_cases h6:48≤nb r 0∧nb r 0≤57
       ·rw [if_pos h6] at h ⊢
        obtain ⟨r',rfl,h7⟩:=h.tail
        simp only [List.length_cons] at hn'
        obtain ⟨d,r2,e,hdd⟩:=digit_head h6
        have hp:1≤(numScan false n false true r).1:=by
         rw [e,show n=n-1+1 from by rw [e] at hn;simp at hn;omega]
         exact numScan_dig hdd
        have e0:nb r' 0=nb r 0:=nb_of_take h7.take (by omega)
        rw [show n'=n' - 1+1 from by omega,numScan_cons,if_neg h1,if_neg h2,if_neg h3,if_pos h4,if_neg (by rw [e0];exact h5),if_pos (by rw [e0];exact h6),key false true r' (by omega) h7]
       ·rw [if_neg h6] at h
        have:=h.no
        rw [hid] at this
        cases this
     ·rw [if_neg h4] at h ⊢
      have hk:nb t' 0=c.toNat∨(c.toNat=59∧nb t' 0=256):=h.kin.not h.no
      rcases hk with hk|⟨_,hk⟩
      ·cases t' with
       | nil=>have:=c.toNat_lt;have:(256:Nat)=c.toNat:=hk;omega
       | cons d r' =>
        have:d=c:=UInt8.toNat_inj.1 hk
        subst this
        simp only [List.length_cons] at hn'
        rw [show n'=n' - 1+1 from by omega,numScan_cons,if_neg h1,if_neg h2,if_neg h3,if_neg h4]
      ·rw [nb_end hk,numScan_nil]
theorem number_local {c:UInt8} {r t':Bs} {k:Bs} {len:Nat} {text:Bs} {base:Nat} {d:Option Bool} (hc:dig c=true∨c.toNat=46) (h:number false (c::r)=.tok k len text base d) (ht:t'.take len=(c::r).take len) (hk:Kin (nb (c::r) len) (nb t' len)):number false t'=.tok k len text base d:=by
 have hg:=number_good false (c:=c) (r:=r) hc
 rw [h] at hg
 have hlen:1≤len:=hg.2.2.1 (by simp)
 generalize hT:c::r=t at *
 unfold number at h ⊢
 simp only at h ⊢
 have e0:nb t' 0=nb t 0:=nb_of_take ht hlen
 cases hb:(decide (nb t 0=48)&&(decide (nb t 1=120)||decide (nb t 1=88))) with
 | true =>
  rw [hb] at h
  simp only [if_true] at h
  by_cases hid:isId (nb t ((numScan true t.length true false (t.drop 2)).1+2))=true
  ·rw [if_pos hid] at h
   cases h
  ·rw [if_neg hid] at h
   have hl:(numScan true t.length true false (t.drop 2)).1+2=len:=by split at h <;> cases h <;> rfl
   have e1:nb t' 1=nb t 1:=nb_of_take ht (by omega)
   have hN:Nears (numScan true t.length true false (t.drop 2)).1 (t.drop 2) (t'.drop 2):=by
    refine ⟨?_, ?_, ?_⟩
    ·rw [nb_drop,Nat.add_comm];simpa using hid
    ·have:=take_drop_eq ht (k:=2)
     rwa [show len-2=(numScan true t.length true false (t.drop 2)).1 from by omega] at this
    ·rw [nb_drop,nb_drop,Nat.add_comm,hl];exact hk
   have e:=numScan_local t.length t'.length true false (t.drop 2) (t'.drop 2) (by rw [List.length_drop];omega) (by rw [List.length_drop];omega) hN
   rw [e0,e1,hb]
   simp only [if_true]
   rw [e,if_neg (by rw [hl,hk.id,←hl];exact hid)]
   exact h
 | false =>
  rw [hb] at h
  simp only [Bool.false_eq_true,if_false] at h
  by_cases hid:isId (nb t (numScan false t.length true false t).1)=true
  ·rw [if_pos hid] at h
   cases h
  ·rw [if_neg hid] at h
   have hl:(numScan false t.length true false t).1=len:=by split at h <;> cases h <;> rfl
   have hno:isId (nb t len)=false:=by rw [←hl];simpa using hid
   have e:=numScan_local t.length t'.length true false t t' (Nat.le_refl _) (Nat.le_refl _) ⟨by rw [hl];exact hno,by rw [hl];exact ht,by rw [hl];exact hk⟩
   have hb':(decide (nb t' 0=48)&&(decide (nb t' 1=120)||decide (nb t' 1=88)))=false:=by
    rw [e0]
    by_cases h2:2≤len
    ·rw [nb_of_take ht (i:=1) (by omega)]
     exact hb
    ·have hl1:len=1:=by omega
     rw [hl1] at hk hno
     have:=hk.not hno
     simp only [isId,decide_eq_false_iff_not] at hno
     have h1:nb t' 1≠120∧nb t' 1≠88:=by omega
     simp [h1.1,h1.2]
   rw [hb']
   simp only [Bool.false_eq_true,if_false]
   rw [e,if_neg (by rw [hl,hk.id,hno];simp)]
   exact h
end Go.Proofs.YtaamolahbkgofaaGreatDoor.lx
namespace Go.Proofs.YtaamolahbkgofaaGreatDoor.lx
open lex
theorem up_idP (c:UInt8):idP (plain.up c)=idP c:=by
 revert c
 exact plain.all_bytes (by decide +kernel)
theorem up_idS (c:UInt8):isIdS (plain.up c).toNat=isIdS c.toNat:=by
 revert c
 exact plain.all_bytes (by decide +kernel)
theorem up_B (c:UInt8):(c.toNat=66∨c.toNat=98)↔plain.up c=66:=by
 revert c
 exact plain.all_bytes (by decide +kernel)
theorem up_R (c:UInt8):(c.toNat=82∨c.toNat=114)↔plain.up c=82:=by
 revert c
 exact plain.all_bytes (by decide +kernel)
theorem same_idP {c c':UInt8} (h:plain.up c'=plain.up c):idP c'=idP c:=by rw [←up_idP,h,up_idP]
theorem same_idS {c c':UInt8} (h:plain.up c'=plain.up c):isIdS c'.toNat=isIdS c.toNat:=by rw [←up_idS,h,up_idS]
theorem same_B {c c':UInt8} (h:plain.up c'=plain.up c):(c'.toNat=66∨c'.toNat=98)↔(c.toNat=66∨c.toNat=98):=by rw [up_B,up_B,h]
theorem same_R {c c':UInt8} (h:plain.up c'=plain.up c):(c'.toNat=82∨c'.toNat=114)↔(c.toNat=82∨c.toNat=114):=by rw [up_R,up_R,h]
/-- The capitals of the first m bytes are the same. -/
def Ups (m:Nat) (t t':Bs):Prop:=(t'.take m).map plain.up=(t.take m).map plain.up
theorem Ups.of {m:Nat} {t t':Bs} (h:t'.take m=t.take m):Ups m t t':=by unfold Ups;rw [h]
theorem Ups.tail {m:Nat} {c:UInt8} {r t':Bs} (h:Ups (m+1) (c::r) t'):∃c' r',t'=c'::r'∧plain.up c'=plain.up c∧Ups m r r':=by
 unfold Ups at h
 cases t' with
 | nil=>simp at h
 | cons d r' =>
  rw [List.take_succ_cons,List.take_succ_cons,List.map_cons,List.map_cons] at h
  injection h with h1 h2
  exact ⟨d,r',rfl,h1,h2⟩
theorem idLen_cons (c:UInt8) (r:Bs):idLen (c::r)=if idP c then 1+idLen r else 0:=rfl
theorem idLen_next:∀t:Bs,isId (nb t (idLen t))=false
 | []=>by decide
 | c::r=>by
  rw [idLen_cons]
  by_cases h:idP c=true
  ·rw [if_pos h,Nat.add_comm]
   exact idLen_next r
  ·rw [if_neg h]
   show idP c=false
   simpa using h
theorem not_head {a:Nat} {t':Bs} (hk:Kin a (nb t' 0)) (ha:isId a=false):t'=[]∨∃d r',t'=d::r'∧idP d=false∧Kin a d.toNat:=by
 cases t' with
 | nil=>exact .inl rfl
 | cons d r' =>
  refine .inr ⟨d,r',rfl, ?_,hk⟩
  have:=hk.id
  rw [ha] at this
  exact this
theorem idLen_local:∀(t t':Bs),Ups (idLen t) t t'→Kin (nb t (idLen t)) (nb t' (idLen t))→idLen t'=idLen t
 | [],t',_,hk=>by
  have hk':Kin 256 (nb t' 0):=hk
  rw [nb_end (t:=t') (by unfold Kin Let at hk';omega)]
 | c::r,t',hu,hk=>by
  have hn:=idLen_next (c::r)
  rw [idLen_cons] at hu hk hn ⊢
  by_cases h:idP c=true
  ·rw [if_pos h,Nat.add_comm] at hu hk
   rw [if_pos h]
   obtain ⟨c',r',rfl,h1,h2⟩:=hu.tail
   rw [idLen_cons,if_pos (by rw [same_idP h1];exact h),idLen_local r r' h2 hk]
  ·rw [if_neg h] at hk hn ⊢
   rcases not_head hk hn with rfl|⟨d,r',rfl,hd,_⟩
   ·rfl
   ·rw [idLen_cons,if_neg (by rw [hd];simp)]
theorem prefx_cons (n:Nat) (by_ ra:Bool) (c:UInt8) (r:Bs):prefx (n+1) by_ ra (c::r) =
  if by_=false∧(c.toNat=66∨c.toNat=98) then (prefx n true ra r).map fun x=>(x.1,x.2.1,x.2.2+1)
  else if ra=false∧(c.toNat=82∨c.toNat=114) then (prefx n by_ true r).map fun x=>(x.1,x.2.1,x.2.2+1)
  else if c.toNat=34∨c.toNat=39 then some (by_,ra,0)
  else none:=rfl
theorem prefx_nil (n:Nat) (by_ ra:Bool):prefx n by_ ra []=none:=by cases n <;> rfl
theorem prefx_none_local:∀(n:Nat) (by_ ra:Bool) (t t':Bs),prefx n by_ ra t=none→Ups (idLen t) t t'→Kin (nb t (idLen t)) (nb t' (idLen t))→prefx n by_ ra t'=none
 | 0,_,_,_,_,_,_,_=>rfl
 | n+1,by_,ra,[],t',_,_,hk=>by
  have hk':Kin 256 (nb t' 0):=hk
  rw [nb_end (t:=t') (by unfold Kin Let at hk';omega)]
  rfl
 | n+1,by_,ra,c::r,t',h,hu,hk=>by
  have hn:=idLen_next (c::r)
  rw [idLen_cons] at hu hk hn
  rw [prefx_cons] at h
  by_cases hid:idP c=true
  ·rw [if_pos hid,Nat.add_comm] at hu hk
   obtain ⟨c',r',rfl,h1,h2⟩:=hu.tail
   rw [prefx_cons]
   have hB:=same_B h1
   have hR:=same_R h1
   by_cases hb:by_=false∧(c.toNat=66∨c.toNat=98)
   ·rw [if_pos hb] at h
    rw [if_pos ⟨hb.1,hB.2 hb.2⟩,prefx_none_local n true ra r r' (by simpa using h) h2 hk]
    rfl
   ·rw [if_neg hb] at h
    rw [if_neg (fun e=>hb ⟨e.1,hB.1 e.2⟩)]
    by_cases hr:ra=false∧(c.toNat=82∨c.toNat=114)
    ·rw [if_pos hr] at h
     rw [if_pos ⟨hr.1,hR.2 hr.2⟩,prefx_none_local n by_ true r r' (by simpa using h) h2 hk]
     rfl
    ·rw [if_neg hr] at h
     rw [if_neg (fun e=>hr ⟨e.1,hR.1 e.2⟩),if_neg]
     have hid':=same_idP h1
     rw [hid] at hid'
     simp only [idP,decide_eq_true_eq] at hid'
     omega
  ·rw [if_neg hid] at hk hn
   have hk':Kin c.toNat (nb t' 0):=hk
   have hn':isId c.toNat=false:=hn
   rcases not_head hk' hn' with rfl|⟨d,r',rfl,hd,hkd⟩
   ·rfl
   ·simp only [idP,decide_eq_false_iff_not] at hd
    have h34:=hkd.eq (v:=34) (by unfold Let;omega) (by omega) (by omega)
    have h39:=hkd.eq (v:=39) (by unfold Let;omega) (by omega) (by omega)
    rw [prefx_cons,if_neg (by omega),if_neg (by omega),if_neg]
    intro e
    rw [h34,h39] at e
    simp only [idP,decide_eq_true_eq] at hid
    rw [if_neg (by omega),if_neg (by omega),if_pos e] at h
    cases h
theorem prefx_some_local:∀(n:Nat) (by_ ra:Bool) (t t':Bs) (x:Bool × Bool × Nat),prefx n by_ ra t=some x→t'.take (x.2.2+1)=t.take (x.2.2+1)→prefx n by_ ra t'=some x
 | 0,_,_,_,_,_,h,_=>by cases h
 | n+1,by_,ra,[],t',x,h,_=>by cases h
 | n+1,by_,ra,c::r,t',x,h,ht=>by
  obtain ⟨r',rfl,h2⟩:=head_of rfl ht
  rw [prefx_cons] at h ⊢
  by_cases hb:by_=false∧(c.toNat=66∨c.toNat=98)
  ·rw [if_pos hb] at h ⊢
   cases hp:prefx n true ra r with
   | none=>rw [hp] at h;cases h
   | some y =>
    rw [hp] at h
    cases h
    rw [prefx_some_local n true ra r r' y hp h2]
    rfl
  ·rw [if_neg hb] at h ⊢
   by_cases hr:ra=false∧(c.toNat=82∨c.toNat=114)
   ·rw [if_pos hr] at h ⊢
    cases hp:prefx n by_ true r with
    | none=>rw [hp] at h;cases h
    | some y =>
     rw [hp] at h
     cases h
     rw [prefx_some_local n by_ true r r' y hp h2]
     rfl
   ·rw [if_neg hr] at h ⊢
    exact h
/-- Another text in which the token at the beginning of t, of len bytes, is the same. -/
structure Like (k:Bs) (len:Nat) (t t':Bs):Prop where
 ups:Ups len t t'
 eq:keyword k=false→t'.take len=t.take len
 kin:Kin (nb t len) (nb t' len)
theorem word_local {t t' k text:Bs} {len base:Nat} {d:Option Bool} (h:word false t=.tok k len text base d) (hl:Like k len t t'):word false t'=.tok k len text base d:=by
 unfold word at h ⊢
 by_cases hs:isIdS (nb t 0)=true
 ·rw [if_pos hs] at h
  have hlen:len=idLen t:=by split at h <;> cases h <;> rfl
  subst hlen
  have hp:=idLen_pos (idS_P hs)
  have ht:t≠[]:=by
   rintro rfl
   exact absurd hs (by decide)
  have hid:=idLen_local t t' hl.ups hl.kin
  have hu:(t'.take (idLen t)).map plain.up=(t.take (idLen t)).map plain.up:=hl.ups
  have hs':isIdS (nb t' 0)=true:=by
   cases t with
   | nil=>exact absurd rfl ht
   | cons c r =>
    have hu2:=hl.ups
    generalize idLen (c::r)=m at hp hu2
    cases m with
    | zero=>omega
    | succ m =>
     obtain ⟨c',r',rfl,h1,_⟩:=hu2.tail
     show isIdS c'.toNat=true
     rw [same_idS h1]
     exact hs
  rw [if_pos hs',hid,hu]
  by_cases hk:keyword ((t.take (idLen t)).map plain.up)=true
  ·rw [if_pos hk] at h ⊢
   exact h
  ·rw [if_neg hk] at h ⊢
   cases h
   rw [hl.eq (by decide)]
 ·rw [if_neg hs] at h
  simp at h
theorem sign2_len {t:Bs} {c:UInt8} {k text:Bs} {len base:Nat} {d:Option Bool}:∀ds:Bs,sign2 t c ds=.tok k len text base d→len=1∨len=2
 | [],h=>by cases h;exact .inl rfl
 | x::ds,h=>by
  unfold sign2 at h
  split at h
  ·cases h;exact .inr rfl
  ·exact sign2_len ds h
theorem sign2_local {t t':Bs} {c:UInt8} {k text:Bs} {len base:Nat} {d:Option Bool}:∀ds:Bs,(∀x∈ds,¬Let x.toNat∧x.toNat≠59)→sign2 t c ds=.tok k len text base d→t'.take len=t.take len→Kin (nb t len) (nb t' len)→sign2 t' c ds=.tok k len text base d
 | [],_,h,_,_=>h
 | x::ds,hx,h,ht,hk=>by
  have hlen:=sign2_len _ h
  unfold sign2 at h ⊢
  by_cases h1:nb t 1=x.toNat
  ·rw [if_pos h1] at h
   cases h
   rw [if_pos (by rw [nb_of_take ht (by omega)];exact h1)]
  ·rw [if_neg h1] at h
   have h1':¬nb t' 1=x.toNat:=by
    rcases hlen with rfl|rfl
    ·have hx1:=hx x (by simp)
     rw [hk.eq hx1.1 hx1.2 (by have:=x.toNat_lt;omega)]
     exact h1
    ·rw [nb_of_take ht (by omega)]
     exact h1
   rw [if_neg h1']
   exact sign2_local ds (fun y hy=>hx y (by simp [hy])) h ht hk
theorem delim_local {u u':Bs} {c:UInt8} {r:Bs} {m:Nat} (hu:u=c::r) (hc:c=34∨c=39) (h2:2*(delim u).length≤m) (ht:u'.take m=u.take m) (hk:Kin (nb u m) (nb u' m)):delim u'=delim u:=by
 subst hu
 have hd:=delim_le (t:=c::r) (by simp)
 obtain ⟨r',rfl,hr⟩:=head_of (t':=u') (m:=m-1) rfl (by rw [show m-1+1=m from by omega];exact ht)
 have e:∀x,delim (c::x)=if nb x 0=c.toNat∧nb x 1=c.toNat then [c,c,c] else [c]:=fun _=>rfl
 rw [e,e]
 have e0:nb r' 0=nb r 0:=nb_of_take hr (by omega)
 by_cases h3:3≤m
 ·rw [e0,nb_of_take hr (i:=1) (by omega)]
 ·have hm:m=2:=by omega
  subst hm
  have hq:nb r' 1=c.toNat↔nb r 1=c.toNat:=by
   have hk':Kin (nb r 1) (nb r' 1):=hk
   refine hk'.eq ?_ ?_ ?_
   ·unfold Let;rcases hc with rfl|rfl <;> decide
   ·rcases hc with rfl|rfl <;> decide
   ·have:=c.toNat_lt;omega
  simp only [e0,hq]
theorem strTok_local {by_ ra:Bool} {i:Nat} {t t':Bs} {c:UInt8} {r:Bs} {k text:Bs} {len base:Nat} {d:Option Bool} (ht:t.drop i=c::r) (hc:c=34∨c=39) (h:strTok by_ ra false i t=.tok k len text base d) (hl:t'.take len=t.take len) (hk:Kin (nb t len) (nb t' len)) :
  strTok by_ ra false i t'=.tok k len text base d∧i+1≤len:=by
 unfold strTok at h ⊢
 have hd:=delim_le (t:=t.drop i) (by rw [ht];simp)
 cases hr:quoted (delim (t.drop i)) ra (!by_) false false (t.drop i) with
 | bad x=>rw [hr] at h;cases h
 | fault=>rw [hr] at h;cases h
 | crash=>rw [hr] at h;cases h
 | ok m x =>
  rw [hr] at h
  cases h
  obtain ⟨j,a1,a2,a3,a4,a5,a6⟩:=quoted_ok hd.2 hr
  have htk:=take_drop_eq hl (k:=i)
  rw [show i+m-i=m from by omega] at htk
  have e:delim (t'.drop i)=delim (t.drop i):=delim_local ht hc (by omega) htk (by rw [nb_drop,nb_drop];exact hk)
  rw [e,quoted_local hd.1 hr htk]
  exact ⟨rfl,by omega⟩
theorem quote_local {t t':Bs} {k text:Bs} {len base:Nat} {d:Option Bool} (h:ofQ kIdent 0 (quoted [96] false true true false t)=.tok k len text base d) (hl:t'.take len=t.take len):ofQ kIdent 0 (quoted [96] false true true false t')=.tok k len text base d:=by
 cases hr:quoted [96] false true true false t with
 | bad x=>rw [hr] at h;cases h
 | fault=>rw [hr] at h;cases h
 | crash=>rw [hr] at h;cases h
 | ok m x =>
  rw [hr] at h
  cases h
  rw [Nat.zero_add] at hl
  rw [quoted_local (by simp) hr hl]
  rfl
theorem number_two {r k text:Bs} {len base:Nat} {d:Option Bool} (h:isDg (nb r 0)=true) (e:number false (46::r)=.tok k len text base d):2≤len:=by
 unfold number at e
 have hb:(decide (nb (46::r) 0=48)&&(decide (nb (46::r) 1=120)||decide (nb (46::r) 1=88)))=false:=rfl
 simp only [hb,Bool.false_eq_true,if_false] at e
 by_cases hid:isId (nb (46::r) (numScan false ((46:UInt8)::r).length true false (46::r)).1)=true
 ·rw [if_pos hid] at e
  cases e
 ·rw [if_neg hid] at e
  have hl:(numScan false ((46:UInt8)::r).length true false (46::r)).1=len:=by split at e <;> cases e <;> rfl
  rw [←hl,List.length_cons,numScan_cons,if_neg (by decide),if_neg (by decide),if_pos (by decide)]
  obtain ⟨x,y,e1,hx⟩:=digit_head (r:=r) (by simpa [isDg] using h)
  rw [e1,List.length_cons]
  have:=numScan_dig (n:=y.length) (int:=false) (exp:=false) (r:=y) hx
  show 2≤_+1
  omega
theorem token_word (last:Bs) (c:UInt8) (r:Bs) (h:isIdS c.toNat=true):token false last (c::r) =
  if c∈([66,98,82,114,34,39]:Bs) then
   (match prefx 3 false false (c::r) with
   | some (by_,ra,i)=>strTok by_ ra false i (c::r)
   | none=>word false (c::r))
  else word false (c::r):=by
 have key:∀c:UInt8,isIdS c.toNat=true→c∉([40,41,123,125,59,44,91,93,126,42,47,38,94,37,58,63,92,36]:Bs)∧c≠46∧c≠60∧c≠62∧c≠43∧c≠45∧c≠61∧c≠124∧c≠33∧c≠64∧c≠96∧dig c=false:=plain.all_bytes (by decide +kernel)
 obtain ⟨k1,k2,k3,k4,k5,k6,k7,k8,k9,k10,k11,k12⟩:=key c h
 rw [token_eq,if_neg k1,if_neg k2,if_neg k3,if_neg k4,if_neg k5,if_neg k6,if_neg k7,if_neg k8,if_neg k9,if_neg k10,if_neg k11,if_neg (by rw [k12];simp)]
 rfl
theorem same_six {c c':UInt8} (h:plain.up c'=plain.up c) (hs:isIdS c.toNat=true):c'∈([66,98,82,114,34,39]:Bs)↔c∈([66,98,82,114,34,39]:Bs):=by
 have key:∀c:UInt8,isIdS c.toNat=true→(c∈([66,98,82,114,34,39]:Bs)↔(plain.up c=66∨plain.up c=82)):=plain.all_bytes (by decide +kernel)
 rw [key c hs,key c' (by rw [same_idS h];exact hs),h]
theorem word_len {t k text:Bs} {len base:Nat} {d:Option Bool} (h:word false t=.tok k len text base d):len=idLen t:=by
 unfold word at h
 split at h
 ·split at h <;> cases h <;> rfl
 ·simp at h
theorem token_local {last last':Bs} {t t' k text:Bs} {len base:Nat} {d:Option Bool} (hd:dotKind last'=dotKind last) (h:token false last t=.tok k len text base d) (hl:Like k len t t'):token false last' t'=.tok k len text base d:=by
 cases t with
 | nil =>
  cases h
  have hk:Kin 256 (nb t' 0):=hl.kin
  rw [nb_end (t:=t') (by unfold Kin Let at hk;omega)]
  rfl
 | cons c r =>
  have hg:=token_good false last (c::r)
  rw [h] at hg
  have hp:1≤len:=hg.2.2.1 (by simp)
  by_cases hs:isIdS c.toNat=true
  ·have hu:=hl.ups
   rw [show len=len-1+1 from by omega] at hu
   obtain ⟨c',r',rfl,h1,_⟩:=hu.tail
   have hs':isIdS c'.toNat=true:=by rw [same_idS h1];exact hs
   rw [token_word last c r hs] at h
   rw [token_word last' c' r' hs']
   have h6:=same_six h1 hs
   by_cases hm:c∈([66,98,82,114,34,39]:Bs)
   ·rw [if_pos hm] at h
    rw [if_pos (h6.2 hm)]
    cases hpx:prefx 3 false false (c::r) with
    | none =>
     rw [hpx] at h
     simp only at h
     have hlen:=word_len h
     rw [prefx_none_local 3 false false (c::r) (c'::r') hpx (by rw [←hlen];exact hl.ups) (by rw [←hlen];exact hl.kin)]
     exact word_local h hl
    | some x =>
     rw [hpx] at h
     obtain ⟨by_,ra,i⟩:=x
     simp only at h
     obtain ⟨e,r2,e1,e2⟩:=prefx_quote 3 false false (c::r) _ hpx
     have hkk:keyword k=false:=by
      have:=str_form (by_:=by_) (ra:=ra) e1 e2 True
      have hkk:k=kString∨k=kBytes:=by
       unfold strTok at h
       cases hr:quoted (delim ((c::r).drop i)) ra (!by_) false false ((c::r).drop i) with
       | bad x=>rw [hr] at h;cases h
       | fault=>rw [hr] at h;cases h
       | crash=>rw [hr] at h;cases h
       | ok m x =>
        rw [hr] at h
        cases h
        cases by_ <;> simp
      rcases hkk with rfl|rfl <;> decide
     have htk:=hl.eq hkk
     obtain ⟨a1,a2⟩:=strTok_local e1 e2 h htk hl.kin
     rw [prefx_some_local 3 false false (c::r) (c'::r') _ hpx (take_less htk a2)]
     exact a1
   ·rw [if_neg hm] at h
    rw [if_neg (fun e=>hm (h6.1 e))]
    exact word_local h hl
  ·have hs0:isIdS c.toNat=false:=by simpa using hs
   have hkk:keyword k=false:=by
    have hf:=token_form last True (c::r)
    rw [h] at hf
    cases hf with
    | eof h1 _ _ _=>rw [h1];decide
    | quote h1 _ _ _ _ _=>rw [h1];decide
    | name h1 _ _ _ _=>rw [h1];decide
    | param h1 _ _ _=>rw [h1];decide
    | int10 h1 _ _ _=>rw [h1];decide
    | int16 h1 _ _ _=>rw [h1];decide
    | float h1 _ _ _=>rw [h1];decide
    | str h1 _ _ _=>rcases h1 with h1|h1 <;> rw [h1] <;> decide
    | sign h1 _ _ h4 h5 =>
     rw [h1]
     cases hkr:keyword ((c::r).take len) with
     | false=>rfl
     | true =>
      exfalso
      rw [show len=len-1+1 from by omega,List.take_succ_cons] at hkr
      have:keyword (c::r.take (len-1))=false:=keyword_head (by
       simp only [isIdS,decide_eq_false_iff_not] at hs0
       omega)
      rw [this] at hkr
      cases hkr
    | kw h1 h2 _ _ _ =>
     exfalso
     rw [h1,show len=len-1+1 from by omega,List.take_succ_cons,List.map_cons] at h2
     have:¬(65≤(plain.up c).toNat∧(plain.up c).toNat≤90):=by
      have e:plain.up c=c:=by
       refine plain.up_miss ?_
       simp only [isIdS,decide_eq_false_iff_not] at hs0
       omega
      rw [e]
      simp only [isIdS,decide_eq_false_iff_not] at hs0
      omega
     rw [keyword_head this] at h2
     cases h2
   have htk:=hl.eq hkk
   obtain ⟨r',rfl,hr⟩:=head_of (t':=t') (m:=len-1) rfl (by rw [show len-1+1=len from by omega];exact htk)
   have hkin:=hl.kin
   rw [token_eq] at h ⊢
   by_cases b1:c∈([40,41,123,125,59,44,91,93,126,42,47,38,94,37,58,63,92,36]:Bs)
   ·rw [if_pos b1] at h ⊢;exact h
   rw [if_neg b1] at h ⊢
   by_cases b2:c=46
   ·rw [if_pos b2] at h ⊢
    rw [hd]
    by_cases bd:dotKind last=false∧isDg (nb r 0)=true
    ·rw [if_pos bd] at h
     have hn:=number_local (.inr (by rw [b2];rfl)) h htk hkin
     have:2≤len:=by
      rw [b2] at h
      exact number_two bd.2 h
     rw [if_pos ⟨bd.1,by rw [nb_of_take hr (i:=0) (by omega)];exact bd.2⟩]
     exact hn
    ·rw [if_neg bd] at h
     cases h
     have hk0:Kin (nb r 0) (nb r' 0):=hkin
     rw [if_neg (by rw [hk0.dg];exact bd)]
   rw [if_neg b2] at h ⊢
   by_cases b3:c=60
   ·rw [if_pos b3] at h ⊢;exact sign2_local _ (by unfold Let;decide) h htk hkin
   rw [if_neg b3] at h ⊢
   by_cases b4:c=62
   ·rw [if_pos b4] at h ⊢;exact sign2_local _ (by unfold Let;decide) h htk hkin
   rw [if_neg b4] at h ⊢
   by_cases b5:c=43
   ·rw [if_pos b5] at h ⊢;exact sign2_local _ (by unfold Let;decide) h htk hkin
   rw [if_neg b5] at h ⊢
   by_cases b6:c=45
   ·rw [if_pos b6] at h ⊢;exact sign2_local _ (by unfold Let;decide) h htk hkin
   rw [if_neg b6] at h ⊢
   by_cases b7:c=61
   ·rw [if_pos b7] at h ⊢;exact sign2_local _ (by unfold Let;decide) h htk hkin
   rw [if_neg b7] at h ⊢
   by_cases b8:c=124
   ·rw [if_pos b8] at h ⊢;exact sign2_local _ (by unfold Let;decide) h htk hkin
   rw [if_neg b8] at h ⊢
   by_cases b9:c=33
   ·rw [if_pos b9] at h ⊢;exact sign2_local _ (by unfold Let;decide) h htk hkin
   rw [if_neg b9] at h ⊢
   by_cases b10:c=64
   ·rw [if_pos b10] at h ⊢
    by_cases ba:nb r 0=64
    ·rw [if_pos ba] at h
     cases h
     rw [if_pos (by rw [nb_of_take hr (by omega)];exact ba)]
    ·rw [if_neg ba] at h
     by_cases bb:isIdS (nb r 0)=true
     ·rw [if_pos bb] at h
      cases h
      have hq:=idLen_pos (idS_P bb)
      rw [Nat.add_comm,Nat.add_sub_cancel] at hr
      have e0:nb r' 0=nb r 0:=nb_of_take hr (by omega)
      have hk0:Kin (nb r (idLen r)) (nb r' (idLen r)):=by rw [Nat.add_comm] at hkin;exact hkin
      have e1:=idLen_local r r' (Ups.of hr) hk0
      rw [if_neg (by rw [e0];exact ba),if_pos (by rw [e0];exact bb),e1,hr]
     ·rw [if_neg bb] at h
      cases h
      have hk0:Kin (nb r 0) (nb r' 0):=hkin
      have:=hk0.eq (v:=64) (by unfold Let;omega) (by omega) (by omega)
      rw [if_neg (by rw [this];exact ba),if_neg (by rw [hk0.idS];exact bb)]
   rw [if_neg b10] at h ⊢
   by_cases b11:c=96
   ·rw [if_pos b11] at h ⊢;exact quote_local h htk
   rw [if_neg b11] at h ⊢
   by_cases b12:dig c=true
   ·rw [if_pos b12] at h ⊢
    exact number_local (.inl b12) h htk hkin
   rw [if_neg b12] at h ⊢
   have hw:∀x:Bs,word false (c::x)=.fault:=fun x=>by
    unfold word
    rw [if_neg (by show ¬isIdS c.toNat=true;exact hs)]
    simp
   by_cases b13:c∈([66,98,82,114,34,39]:Bs)
   ·rw [if_pos b13] at h ⊢
    cases hpx:prefx 3 false false (c::r) with
    | none =>
     rw [hpx] at h
     simp only at h
     rw [hw] at h
     cases h
    | some x =>
     rw [hpx] at h
     obtain ⟨by_,ra,i⟩:=x
     simp only at h
     obtain ⟨e,r2,e1,e2⟩:=prefx_quote 3 false false (c::r) _ hpx
     obtain ⟨a1,a2⟩:=strTok_local e1 e2 h htk hkin
     rw [prefx_some_local 3 false false (c::r) (c::r') _ hpx (take_less htk a2)]
     exact a1
   ·rw [if_neg b13,hw] at h
    cases h
theorem own_local {last last':Bs} {dot:Bool} {t t' k text:Bs} {len base:Nat} {d:Option Bool} (hd:dotKind last'=dotKind last) (h:own false last dot t=.tok k len text base d) (hl:Like k len t t'):own false last' dot t'=.tok k len text base d:=by
 unfold own at h ⊢
 cases dot with
 | false=>exact token_local hd h hl
 | true =>
  simp only [if_true] at h ⊢
  unfold field at h ⊢
  by_cases hi:isId (nb t 0)=true
  ·rw [if_pos hi] at h
   cases h
   have ht:=hl.eq (by decide)
   have hp:=idLen_pos hi
   have e1:=idLen_local t t' (Ups.of ht) hl.kin
   rw [if_pos (by rw [nb_of_take ht (by omega)];exact hi),e1,ht]
  ·rw [if_neg hi] at h
   have hg:=token_good false last t
   rw [h] at hg
   have hz:isId (nb t' 0)=false:=by
    by_cases hlen:len=0
    ·have hk:=hl.kin
     rw [hlen] at hk
     rw [hk.id]
     simpa using hi
    ·have hu:=hl.ups
     cases t with
     | nil=>have:=hg.1;simp at this;omega
     | cons c r =>
      rw [show len=len-1+1 from by omega] at hu
      obtain ⟨c',r',rfl,h1,_⟩:=hu.tail
      show idP c'=false
      rw [same_idP h1]
      have:¬idP c=true:=hi
      simpa using this
   rw [if_neg (by rw [hz];simp)]
   exact token_local hd h hl
end Go.Proofs.YtaamolahbkgofaaGreatDoor.lx
namespace Go.Proofs.YtaamolahbkgofaaGreatDoor.lx
open lex
theorem ahead_end:∀(n:Nat) (t:Bs) (l:List (Nat × Nat)) (a:Nat),t.length≤n→ahead t=(l,some a)→spLen (t.drop (comsLen l+a))=0∧comment (t.drop (comsLen l+a))=.no
 | n,t,l,a,hn,h=>by
  cases hcm:comment (t.drop (spaces t)) with
  | open_=>rw [ahead_open hcm] at h;cases h
  | no =>
   rw [ahead_no hcm] at h
   cases h
   simp only [comsLen,Nat.zero_add]
   exact ⟨spLen_spaces t,hcm⟩
  | some m =>
   have hm:=comment_size hcm
   rw [List.length_drop] at hm
   rw [ahead_some hcm] at h
   cases n with
   | zero=>omega
   | succ n =>
    cases hr:ahead (t.drop (spaces t+m)) with
    | mk l2 a2 =>
     rw [hr] at h
     injection h with hx hy
     simp only at hx hy
     subst hx hy
     have ih:=ahead_end n (t.drop (spaces t+m)) l2 a (by rw [List.length_drop];omega) hr
     rw [List.drop_drop] at ih
     simp only [comsLen]
     rw [Nat.add_assoc (spaces t+m)]
     exact ih
theorem comment_nots {u:Bs} (h:comment u=.no):¬(nb u 0=35∨(nb u 0=45∧nb u 1=45))∧¬(nb u 0=47∧nb u 1=42):=by
 unfold comment at h
 by_cases h1:nb u 0=35∨(nb u 0=45∧nb u 1=45)
 ·rw [if_pos h1] at h
  cases h
 ·rw [if_neg h1] at h
  by_cases h2:nb u 0=47∧nb u 1=42
  ·rw [if_pos h2] at h
   split at h <;> cases h
  ·exact ⟨h1,h2⟩
theorem comment_is_no {u:Bs} (h1:¬(nb u 0=35∨(nb u 0=45∧nb u 1=45))) (h2:¬(nb u 0=47∧nb u 1=42)):comment u=.no:=by
 unfold comment
 rw [if_neg h1,if_neg h2]
/-- A token begins with a byte below 128. -/
def AscO (c:UInt8):Out→Prop
 | .tok _ _ _ _ _=>c.toNat<128
 | _=>True
theorem word_asc (c:UInt8) (r:Bs):AscO c (word false (c::r)):=by
 unfold word
 refine ite_P (fun h=>?_) fun _=>trivial
 have h':isIdS c.toNat=true:=h
 simp only [isIdS,decide_eq_true_eq] at h'
 exact ite_P (fun _=>by show c.toNat<128;omega) fun _=>by show c.toNat<128;omega
theorem own_asc {last:Bs} {dot:Bool} {c:UInt8} {r k text:Bs} {len base:Nat} {d:Option Bool} (h:own false last dot (c::r)=.tok k len text base d):c.toNat<128:=by
 have key:∀c:UInt8,128≤c.toNat→isIdS c.toNat=false∧isId c.toNat=false∧c∉([40,41,123,125,59,44,91,93,126,42,47,38,94,37,58,63,92,36]:Bs)∧c≠46∧c≠60∧c≠62∧c≠43∧c≠45∧c≠61∧c≠124∧c≠33∧c≠64∧c≠96∧dig c=false∧c∉([66,98,82,114,34,39]:Bs):=plain.all_bytes (by decide +kernel)
 rcases Nat.lt_or_ge c.toNat 128 with hc|hc
 ·exact hc
 ·exfalso
  obtain ⟨k0,k00,k1,k2,k3,k4,k5,k6,k7,k8,k9,k10,k11,k12,k13⟩:=key c hc
  have ht:token false last (c::r)=.fault:=by
   rw [token_eq,if_neg k1,if_neg k2,if_neg k3,if_neg k4,if_neg k5,if_neg k6,if_neg k7,if_neg k8,if_neg k9,if_neg k10,if_neg k11,if_neg (by rw [k12];simp),if_neg k13]
   unfold word
   rw [if_neg (by show ¬isIdS c.toNat=true;rw [k0];simp)]
   rfl
  unfold own at h
  cases dot with
  | false =>
   have h':token false last (c::r)=_:=h
   rw [ht] at h'
   cases h'
  | true =>
   have h':field false last (c::r)=_:=h
   unfold field at h'
   rw [if_neg (by show ¬isId c.toNat=true;rw [k00];simp),ht] at h'
   cases h'
theorem up_cases {c c':UInt8} (h:plain.up c'=plain.up c):c'=c∨(plain.alpha c'=true∧plain.alpha c=true):=by
 by_cases h1:97≤c.toNat∧c.toNat≤122
 ·by_cases h2:97≤c'.toNat∧c'.toNat≤122
  ·exact .inr ⟨by simp [plain.alpha];omega,by simp [plain.alpha];omega⟩
  ·have e1:=plain.up_hit h1
   rw [plain.up_miss h2] at h
   rw [←h] at e1
   exact .inr ⟨by simp [plain.alpha];omega,by simp [plain.alpha];omega⟩
 ·by_cases h2:97≤c'.toNat∧c'.toNat≤122
  ·have e1:=plain.up_hit h2
   rw [plain.up_miss h1] at h
   rw [h] at e1
   exact .inr ⟨by simp [plain.alpha];omega,by simp [plain.alpha];omega⟩
  ·rw [plain.up_miss h1,plain.up_miss h2] at h
   exact .inl h
theorem alpha_let {c:UInt8} (h:plain.alpha c=true):Let c.toNat:=by
 simpa [plain.alpha,Let] using h
theorem same_nb {c c':UInt8} (h:plain.up c'=plain.up c):Kin c.toNat c'.toNat:=by
 rcases up_cases h with rfl|⟨h1,h2⟩
 ·exact .refl _
 ·exact .inr (.inr ⟨alpha_let h2,alpha_let h1⟩)
theorem like_start {k:Bs} {len:Nat} {u u':Bs} {last:Bs} {dot:Bool} {text:Bs} {base:Nat} {d:Option Bool} (ho:own false last dot u=.tok k len text base d) (h0:spLen u=0) (hc:comment u=.no) (hl:Like k len u u') :
  spLen u'=0∧comment u'=.no∧(u=[]→u'=[]):=by
 cases u with
 | nil =>
  have hg:=own_good false last dot []
  rw [ho] at hg
  have h1:len=0:=by have:=hg.1;simp at this;omega
  have hk:=hl.kin
  rw [h1] at hk
  have hk':Kin 256 (nb u' 0):=hk
  have e:=nb_end (t:=u') (by unfold Kin Let at hk';omega)
  subst e
  exact ⟨rfl,rfl,fun _=>rfl⟩
 | cons c r =>
  have hg:=own_good false last dot (c::r)
  rw [ho] at hg
  have hp:1≤len:=hg.2.2.1 (by simp)
  have ha:=own_asc ho
  have hu:=hl.ups
  rw [show len=len-1+1 from by omega] at hu
  obtain ⟨c',r',rfl,h1,h2⟩:=hu.tail
  refine ⟨spLen_zero ha h0 ?_, ?_,fun e=>by cases e⟩
  ·rcases up_cases h1 with h1|h1
   ·exact .inl h1
   ·exact .inr h1.1
  ·have hn:=comment_nots hc
   have k0:Kin (nb (c::r) 0) (nb (c'::r') 0):=same_nb h1
   have k1:Kin (nb (c::r) 1) (nb (c'::r') 1):=by
    by_cases h2l:2≤len
    ·cases r with
     | nil=>have:=hg.1;simp at this;omega
     | cons x y =>
      rw [show len-1=len-2+1 from by omega] at h2
      obtain ⟨x',y',rfl,h3,_⟩:=h2.tail
      exact same_nb h3
    ·have e:len=1:=by omega
     have:=hl.kin
     rw [e] at this
     exact this
   have e35:=k0.eq (v:=35) (by unfold Let;omega) (by omega) (by omega)
   have e45:=k0.eq (v:=45) (by unfold Let;omega) (by omega) (by omega)
   have e47:=k0.eq (v:=47) (by unfold Let;omega) (by omega) (by omega)
   have f45:=k1.eq (v:=45) (by unfold Let;omega) (by omega) (by omega)
   have f42:=k1.eq (v:=42) (by unfold Let;omega) (by omega) (by omega)
   exact comment_is_no (by rw [e35,e45,f45];exact hn.1) (by rw [e47,f42];exact hn.2)
/-- What a token is, places aside. -/
structure Alike (k k':Tk):Prop where
 kind:k'.kind=k.kind
 text:k'.text=k.text
 base:k'.base=k.base
/-- The next token of another text. -/
theorem next_local {p p':Nat} {last last':Bs} {dot d:Bool} {t t':Bs} {k:Tk} (hd:dotKind last'=dotKind last) (h:nextTok false p last dot t=.tok k d) (ht:t'.take (k.pos-p)=t.take (k.pos-p)) (hl:Like k.kind (k.fin-k.pos) (t.drop (k.pos-p)) (t'.drop (k.pos-p))) :
  ∃k',nextTok false p' last' dot t'=.tok k' d∧Alike k k'∧k'.pos=p'+(k.pos-p)∧k'.fin=p'+(k.fin-p):=by
 unfold nextTok at h ⊢
 cases ha:ahead t with
 | mk l a0 =>
  rw [ha] at h
  simp only at h
  cases a0 with
  | none=>simp at h
  | some a =>
   simp only at h
   have hb:=own_good false last dot (t.drop (comsLen l+a))
   cases ho:own false last dot (t.drop (comsLen l+a)) with
   | fault=>rw [ho] at h;cases h
   | crash=>rw [ho] at h;cases h
   | bad len=>rw [ho] at hb;cases hb.1
   | tok kk len text base d0 =>
    rw [ho] at h
    cases h
    have e1:p+comsLen l+a-p=comsLen l+a:=by omega
    have e2:p+comsLen l+a+len-(p+comsLen l+a)=len:=by omega
    have e3:p+comsLen l+a+len-p=comsLen l+a+len:=by omega
    simp only at ht hl
    rw [e1] at ht hl
    rw [e2] at hl
    have he:=ahead_end t.length t l a (Nat.le_refl _) ha
    have hst:=like_start ho he.1 he.2 hl
    have hal:=ahead_local t.length t t' l a (Nat.le_refl _) ha ht hst.1 hst.2.1 (fun e=>by
     have h1:t.drop (comsLen l+a)=[]:=List.drop_eq_nil_of_le (by omega)
     have h2:=congrArg List.length (hst.2.2 h1)
     rw [List.length_drop] at h2
     simp only [List.length_nil] at h2
     omega)
    rw [hal]
    simp only
    rw [own_local hd ho hl]
    refine ⟨_,rfl,⟨rfl,rfl,rfl⟩, ?_, ?_⟩
    ·show p'+comsLen l+a=p'+(p+comsLen l+a-p)
     omega
    ·show p'+comsLen l+a+len=p'+(p+comsLen l+a+len-p)
     omega
/-! ### Letters turned in keywords -/
theorem take_ext {t t':Bs} {n:Nat} (h:∀i,i<n→t'[i]?=t[i]?):t'.take n=t.take n:=by
 apply List.ext_getElem?
 intro i
 rw [List.getElem?_take,List.getElem?_take]
 split
 ·exact h i (by assumption)
 ·rfl
theorem ups_ext {t t':Bs} {n:Nat} (h:∀i,i<n→t'[i]?.map plain.up=t[i]?.map plain.up):Ups n t t':=by
 apply List.ext_getElem?
 intro i
 rw [List.getElem?_map,List.getElem?_map,List.getElem?_take,List.getElem?_take]
 split
 ·exact h i (by assumption)
 ·rfl
theorem Steps.ge {np:Bool} {s:Bs}:∀{l:List Tk} {p:Nat} {last:Bs} {dot:Bool},Steps np s p last dot l→∀k∈l,p≤k.pos∧k.pos≤k.fin
 | [],_,_,_,_,k,hk=>by cases hk
 | x::r,p,last,dot,⟨hp,d,hx,hr⟩,k,hk=>by
  have h1:=(next_at hx).le
  have h2:=(next_at hx).pos
  rcases List.mem_cons.1 hk with rfl|hk
  ·exact ⟨by omega,h2⟩
  ·have:=Steps.ge hr k hk
   omega
/-- s' is s, but for letters in keywords among the tokens l, from place p on. -/
def Var (s s':Bs) (p:Nat) (l:List Tk):Prop:=∀x,p≤x→s'[x]?=s[x]?∨(∃c c',s[x]?=some c∧s'[x]?=some c'∧plain.alpha c=true∧plain.up c'=plain.up c∧∃k∈l,keyword k.kind=true∧k.pos≤x∧x<k.fin)
inductive Sames:List Tk→List Tk→Prop
 | nil:Sames [] []
 | cons {k k':Tk} {l l':List Tk}:Alike k k'→k'.pos=k.pos→k'.fin=k.fin→Sames l l'→Sames (k::l) (k'::l')
theorem Sames.length {l l':List Tk} (h:Sames l l'):l'.length=l.length:=by
 induction h with
 | nil=>rfl
 | cons _ _ _ _ ih=>simp [ih]
theorem Sames.get {l l':List Tk} (h:Sames l l'):∀i (h1:i<l.length) (h2:i<l'.length),Alike l[i] l'[i]∧l'[i].pos=l[i].pos∧l'[i].fin=l[i].fin:=by
 induction h with
 | nil=>intro i h1;simp at h1
 | cons ha hp hf _ ih =>
  intro i h1 h2
  cases i with
  | zero=>exact ⟨ha,hp,hf⟩
  | succ i=>exact ih i (by simpa using h1) (by simpa using h2)
theorem toksN_case {s s':Bs}:∀(n n' p:Nat) (last:Bs) (dot:Bool),p≤s.length→(s'.drop p).length<n'→(toksN false n p last dot (s.drop p)).2=.ok→Var s s' p (toksN false n p last dot (s.drop p)).1 →
  (toksN false n' p last dot (s'.drop p)).2=.ok∧Sames (toksN false n p last dot (s.drop p)).1 (toksN false n' p last dot (s'.drop p)).1
 | 0,_,_,_,_,_,_,h,_=>by cases h
 | n+1,0,_,_,_,_,h,_,_=>by omega
 | n+1,n'+1,p,last,dot,hp,hn',h,hV=>by
  unfold toksN at h hV ⊢
  cases hx:nextTok false p last dot (s.drop p) with
  | fault=>rw [hx] at h;cases h
  | crash=>rw [hx] at h;cases h
  | tok k d =>
   rw [hx] at h hV
   simp only at h hV ⊢
   have hat:=next_at hx
   have hle:=hat.le
   have hpf:=hat.pos
   have hok:=next_ok hp hx
   have efin:(s.drop p).drop (k.fin-p)=s.drop k.fin:=by rw [List.drop_drop];congr 1;omega
   have efin':(s'.drop p).drop (k.fin-p)=s'.drop k.fin:=by rw [List.drop_drop];congr 1;omega
   have hrest:∀y∈(if k.kind=kEof then ([k],End.ok) else (k::(toksN false n k.fin k.kind d ((s.drop p).drop (k.fin-p))).1,(toksN false n k.fin k.kind d ((s.drop p).drop (k.fin-p))).2)).1,y=k∨k.fin≤y.pos:=by
    intro y hy
    by_cases hk:k.kind=kEof
    ·rw [if_pos hk] at hy
     exact .inl (by simpa using hy)
    ·rw [if_neg hk] at hy
     rcases List.mem_cons.1 hy with hy|hy
     ·exact .inl hy
     ·rw [efin] at hy
      exact .inr (Steps.ge (toksN_steps n k.fin k.kind d hok.le) y hy).1
   have hlow:∀x,p≤x→x<k.pos→s'[x]?=s[x]?:=by
    intro x h1 h2
    rcases hV x h1 with e|⟨c,c',_,_,_,_,y,hy,_,h3,h4⟩
    ·exact e
    ·rcases hrest y hy with rfl|hh <;> omega
   have hmid:∀x,k.pos≤x→x<k.fin→s'[x]?.map plain.up=s[x]?.map plain.up∧(keyword k.kind=false→s'[x]?=s[x]?):=by
    intro x h1 h2
    rcases hV x (by omega) with e|⟨c,c',e1,e2,_,e3,y,hy,hk,h3,h4⟩
    ·exact ⟨by rw [e],fun _=>e⟩
    ·refine ⟨by rw [e1,e2];simp [e3],fun hkf=>?_⟩
     rcases hrest y hy with rfl|hh
     ·rw [hk] at hkf;cases hkf
     ·omega
   have hend:Kin (nb s k.fin) (nb s' k.fin):=by
    rcases hV k.fin (by omega) with e|⟨c,c',e1,e2,_,e3,_⟩
    ·unfold nb
     rw [e]
     exact .refl _
    ·unfold nb
     rw [e1,e2]
     exact same_nb e3
   have ht:(s'.drop p).take (k.pos-p)=(s.drop p).take (k.pos-p):=take_ext fun i hi=>by
    rw [List.getElem?_drop,List.getElem?_drop]
    exact hlow _ (by omega) (by omega)
   have hl:Like k.kind (k.fin-k.pos) ((s.drop p).drop (k.pos-p)) ((s'.drop p).drop (k.pos-p)):=by
    rw [List.drop_drop,List.drop_drop,show p+(k.pos-p)=k.pos from by omega]
    refine ⟨ups_ext fun i hi=>?_,fun hk=>take_ext fun i hi=>?_, ?_⟩
    ·rw [List.getElem?_drop,List.getElem?_drop]
     exact (hmid _ (by omega) (by omega)).1
    ·rw [List.getElem?_drop,List.getElem?_drop]
     exact (hmid _ (by omega) (by omega)).2 hk
    ·rw [nb_drop,nb_drop,show k.pos+(k.fin-k.pos)=k.fin from by omega]
     exact hend
   obtain ⟨k',e1,e2,e3,e4⟩:=next_local (p':=p) (last':=last) rfl hx ht hl
   have ep:k'.pos=k.pos:=by omega
   have ef:k'.fin=k.fin:=by omega
   rw [e1]
   simp only
   rw [e2.kind]
   by_cases hk:k.kind=kEof
   ·rw [if_pos hk,if_pos hk]
    exact ⟨rfl,.cons e2 ep ef .nil⟩
   ·rw [if_neg hk] at h hV
    rw [if_neg hk,if_neg hk]
    simp only at h hV ⊢
    rw [efin] at h hV
    rw [ef,efin,efin']
    have hm:=hat.more hk
    have hin:p<s'.length:=by
     have hs:s[p]?=some (s[p]'(by have:=hok.le;omega)):=List.getElem?_eq_getElem _
     rcases hV p (Nat.le_refl _) with e|⟨c,c',_,a2,_⟩
     ·rw [hs] at e
      exact (List.getElem?_eq_some_iff.1 e).1
     ·exact (List.getElem?_eq_some_iff.1 a2).1
    have hlen:(s'.drop k.fin).length<n':=by
     rw [List.length_drop] at hn' ⊢
     omega
    have ih:=toksN_case n n' k.fin k.kind d hok.le hlen h (fun x hx=>by
     rcases hV x (by omega) with e|⟨c,c',a1,a2,a3,a4,y,hy,hyk,h3,h4⟩
     ·exact .inl e
     ·refine .inr ⟨c,c',a1,a2,a3,a4,y, ?_,hyk,h3,h4⟩
      rcases List.mem_cons.1 hy with rfl|hy
      ·omega
      ·exact hy)
    exact ⟨ih.1,.cons e2 ep ef ih.2⟩
theorem toks_case {s s':Bs} (h:(toks false s).2=.ok) (hV:Var s s' 0 (toks false s).1):(toks false s').2=.ok∧Sames (toks false s).1 (toks false s').1:=by
 have:=toksN_case (s:=s) (s':=s') (s.length+1) (s'.length+1) 0 [] false (Nat.zero_le _) (by simp) (by simpa [toks] using h) (by simpa [toks] using hV)
 simpa [toks] using this
end Go.Proofs.YtaamolahbkgofaaGreatDoor.lx
