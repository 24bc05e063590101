/-
  Contracts of the laws' small functions on texts and bytes: begins, ends, digit, letter, wordy, word, brittle, padded, within. Plain lemmas: a text with no backslash among its last nine bytes is read without a crash; read loosely it has no fault. Plain lemmas: each token and each comment of a text stands where it says, one behind the other. Plain lemmas: the form that each token has by its kind. What impl.Lex hands back, as the laws read it. Conditions: of each, in its statement.
-/
import Derived.Test.YtaamolahbkgofaaGreatDoorK01
import Derived.Test.YtaamolahbkgofaaGreatDoorK02
import Derived.Test.YtaamolahbkgofaaGreatDoorK05
set_option linter.unusedVariables false
namespace Go.Proofs.YtaamolahbkgofaaGreatDoor.lex
open Go.RowKit mem lines plain
/-- s begins with t; it ends with t. -/
def begB (s t:ByteArray):Bool:=decide (s.data.toList.take t.size=t.data.toList)
def endB (s t:ByteArray):Bool:=decide (t.size≤s.size∧s.data.toList.drop (s.size-t.size)=t.data.toList)
theorem bytes_eq {s t:ByteArray}:s=t↔s.data.toList=t.data.toList:=by
 constructor
 ·rintro rfl;rfl
 ·intro h
  exact ByteArray.ext (Array.ext' h)
theorem extract_list (s:ByteArray) (a b:Nat):(s.extract a b).data.toList=(s.data.toList.drop a).take (b-a):=by
 simp only [ByteArray.data_extract,Array.toList_extract,List.extract_eq_take_drop]
theorem begB_le {s t:ByteArray} (h:t.size≤s.size):begB s t=((s.extract 0 t.size).toList==t.toList):=by
 rw [Bool.eq_iff_iff,beq_iff_eq,Lib.toList_data,Lib.toList_data,extract_list]
 simp [begB]
theorem begB_gt {s t:ByteArray} (h:¬t.size≤s.size):begB s t=false:=by
 rw [begB,decide_eq_false_iff_not]
 intro e
 have:=congrArg List.length e
 simp at this
 omega
theorem endB_le {s t:ByteArray} (h:t.size≤s.size):endB s t=((s.extract (s.size-t.size) s.size).toList==t.toList):=by
 rw [Bool.eq_iff_iff,beq_iff_eq,Lib.toList_data,Lib.toList_data,extract_list]
 simp only [endB,decide_eq_true_eq,h,true_and]
 rw [List.take_of_length_le (by simp)]
theorem endB_gt {s t:ByteArray} (h:¬t.size≤s.size):endB s t=false:=by
 rw [endB,decide_eq_false_iff_not]
 exact fun e=>h e.1
theorem begins_any (s t:ByteArray) (w:World) (hs:s.size≤1000000) (ht:t.size≤1000000):Calls Tryz.prog 16 #[.string s,.string t] w fun e w'=>e=.returned (.bool (begB s t))∧w=w':=by
 by_cases h:t.size≤s.size
 ·have H:=Lib.hid (begB_le h)
  have h1:(t.size:Int)≤(s.size:Int):=by omega
  go_enter Tryz.func16,Tryz.ntmps16
  go_wp2_with fail
  go_ret
  exact ⟨ret_bool H.out.symm,rfl⟩
 ·have H:=Lib.hid (begB_gt h)
  have h1:¬(t.size:Int)≤(s.size:Int):=by omega
  go_enter Tryz.func16,Tryz.ntmps16
  go_wp2_with fail
  go_ret
  exact ⟨ret_bool H.out.symm,rfl⟩
theorem ends_any (s t:ByteArray) (w:World) (hs:s.size≤1000000) (ht:t.size≤1000000):Calls Tryz.prog 15 #[.string s,.string t] w fun e w'=>e=.returned (.bool (endB s t))∧w=w':=by
 by_cases h:t.size≤s.size
 ·have H:=Lib.hid (endB_le h)
  have h1:(t.size:Int)≤(s.size:Int):=by omega
  go_enter Tryz.func15,Tryz.ntmps15
  go_wp2_with fail
  go_ret
  exact ⟨ret_bool H.out.symm,rfl⟩
 ·have H:=Lib.hid (endB_gt h)
  have h1:¬(t.size:Int)≤(s.size:Int):=by omega
  go_enter Tryz.func15,Tryz.ntmps15
  go_wp2_with fail
  go_ret
  exact ⟨ret_bool H.out.symm,rfl⟩
def digZ (a:Int):Bool:=decide (48≤a∧a≤57)
def letZ (a:Int):Bool:=decide ((97≤a∧a≤122)∨(65≤a∧a≤90)∨a=95)
theorem digit_any (a:Int) (w:World):Calls Tryz.prog 35 #[.int .u8 a] w fun e w'=>e=.returned (.bool (digZ a))∧w=w':=by
 go_enter Tryz.func35,Tryz.ntmps35
 go_wp2
 all_goals go_ret
 all_goals exact ⟨ret_bool (by unfold digZ;first|(simp <;> omega)|(rw [Bool.eq_iff_iff];simp <;> omega)),rfl⟩
theorem letter_any (a:Int) (w:World):Calls Tryz.prog 51 #[.int .u8 a] w fun e w'=>e=.returned (.bool (letZ a))∧w=w':=by
 go_enter Tryz.func51,Tryz.ntmps51
 go_wp2
 all_goals go_ret
 all_goals exact ⟨ret_bool (by unfold letZ;first|(simp <;> omega)|(rw [Bool.eq_iff_iff];simp <;> omega)),rfl⟩
theorem wordy_any (a:Int) (w:World):Calls Tryz.prog 52 #[.int .u8 a] w fun e w'=>e=.returned (.bool (letZ a||digZ a))∧w=w':=by
 go_enter Tryz.func52,Tryz.ntmps52
 go_wp2_with (first|(go_at_call 51;refine (letter_any _ _).mono ?_;rintro e w' ⟨rfl,rfl⟩)|(go_at_call 35;refine (digit_any _ _).mono ?_;rintro e w' ⟨rfl,rfl⟩))
 all_goals go_ret
 all_goals exact ⟨ret_bool (by simp_all),rfl⟩
theorem not_empty {s:ByteArray} (h:0<s.size):s.toList.isEmpty=false:=by
 rw [Lib.toList_data]
 cases hl:s.data.toList with
 | nil =>
  have e:s.data.toList.length=s.size:=by simp
  rw [hl] at e
  simp at e
  omega
 | cons c r=>rfl
set_option maxRecDepth 100000 in
/-- A word, as lx.wordB has it. -/
theorem word_yes {s:ByteArray} (w:World) (hs:s.size≤1000000) (h0:0<s.size) (h1:letZ s[0].toNat=true) (h:∀j (hj:j<s.size),(letZ s[j].toNat||digZ s[j].toNat)=true) :
  Calls Tryz.prog 34 #[.string s] w fun e w'=>e=.returned (.bool true)∧w=w':=by
 have H:=Lib.hid h
 clear h
 have h00:(0:Int)<(s.size:Int):=by omega
 have hne:s.toList.isEmpty=false:=not_empty h0
 go_enter Tryz.func34,Tryz.ntmps34
 go_wp2_with (go_at_call 51;refine (letter_any _ _).mono ?_;rintro e w' ⟨rfl,rfl⟩)
 go_loop [3] (fun i=>∃k:Nat,k≤s.size∧i=.int .i64 k) (fun i=>s.size-(intOf i).toNat)
 case atStart=>exact ⟨1,by omega,rfl⟩
 case round =>
  obtain ⟨k,hk,rfl⟩:=hrel
  by_cases hlt:k<s.size
  ·have hw:=H.out k hlt
   go_wp2_with (go_at_call 52;refine (wordy_any _ _).mono ?_;rintro e w' ⟨rfl,rfl⟩)
   go_round
   case rel=>exact ⟨k+1,by omega,by go_num⟩
   case measure=>simp [intOf];omega
  ·go_wp2_with fail
   go_ret
   exact ⟨rfl,rfl⟩
/-- A backslash stands among the last nine bytes. -/
def brittleB (s:ByteArray):Bool:=(s.data.toList.drop (s.size-9)).contains 92
theorem brittle_yes {s:ByteArray} {k:Nat} (hk:k<s.size) (h9:s.size≤k+9) (h:(s[k].toNat:Int)=92):brittleB s=true:=by
 have e:s[k]=92:=UInt8.toNat_inj.1 (by show s[k].toNat=92;omega)
 rw [brittleB,List.contains_iff_mem,←e]
 have hl:k-(s.size-9)<(s.data.toList.drop (s.size-9)).length:=by simp;omega
 have:(s.data.toList.drop (s.size-9))[k-(s.size-9)]=s[k]:=by
  rw [List.getElem_drop]
  have:s.size-9+(k-(s.size-9))=k:=by omega
  simp only [this]
  rfl
 rw [←this]
 exact List.getElem_mem hl
theorem brittle_no {s:ByteArray} (h:∀j (hj:j<s.size),s.size≤j+9→(s[j].toNat:Int)≠92):brittleB s=false:=by
 rw [brittleB,Bool.eq_false_iff]
 intro hc
 have hm:=List.contains_iff_mem.1 hc
 obtain ⟨j,hj,e⟩:=List.getElem_of_mem hm
 rw [List.getElem_drop] at e
 have hj':s.size-9+j<s.size:=by simp at hj;omega
 refine h (s.size-9+j) hj' (by omega) ?_
 have:s[s.size-9+j]=92:=e
 rw [this]
 rfl
set_option maxRecDepth 100000 in
theorem brittle_any (s:ByteArray) (w:World) (hs:s.size≤1000000):Calls Tryz.prog 10 #[.string s] w fun e w'=>e=.returned (.bool (brittleB s))∧w=w':=by
 obtain ⟨m,hm,hms,hmax⟩:∃m:Nat,s.size≤m+9∧m≤s.size∧max (0:Int) ((s.size:Int)-9)=(m:Int):=⟨s.size-9,by omega,by omega,by omega⟩
 have Y:=Lib.hid (fun k h1 h2 h3=>brittle_yes (s:=s) (k:=k) h1 h2 h3)
 have N:=Lib.hid (fun h=>brittle_no (s:=s) h)
 go_enter Tryz.func10,Tryz.ntmps10
 go_wp2_with fail
 go_loop [3] (fun i=>∃k:Nat,m≤k∧k≤s.size∧i=.int .i64 k∧Hid (∀j (hj:j<s.size),m≤j→j<k→(s[j].toNat:Int)≠92)) (fun i=>s.size-(intOf i).toNat)
 case atStart=>exact ⟨m,Nat.le_refl _,hms,rfl,fun j _ h1 h2=>absurd h1 (by omega)⟩
 case round =>
  obtain ⟨k,hmk,hk,rfl,H⟩:=hrel
  by_cases hlt:k<s.size
  ·go_wp2_with fail
   ·have h8:((s[k].toNat:Int)==92)=true:=by assumption
    go_ret
    exact ⟨ret_bool (Y.out k hlt (by omega) (beq_iff_eq.1 h8)).symm,rfl⟩
   ·have h8:((s[k].toNat:Int)==92)=false:=by assumption
    go_round
    case rel=>exact ⟨k+1,by omega,by omega,by go_num,fun j hj h1 h2=>if e:j=k then by subst e;exact fun e=>by rw [e] at h8;exact absurd h8 (by decide) else H.out j hj h1 (by omega)⟩
    case measure=>simp [intOf];omega
  ·go_wp2_with fail
   go_ret
   exact ⟨ret_bool (N.out fun j hj h9=>H.out j hj (by omega) (by omega)).symm,rfl⟩
/-- padded leaves a text that is not brittle. -/
theorem padded_any (s:ByteArray) (w:World) (hs:s.size≤1000000) (hb:brittleB s=false):Calls Tryz.prog 31 #[.string s] w fun e w'=>e=.returned (.string s)∧w=w':=by
 go_enter Tryz.func31,Tryz.ntmps31
 go_wp2_with (go_at_call 10;refine (brittle_any _ _ hs).mono ?_;rintro e w' ⟨rfl,rfl⟩)
 go_ret
 exact ⟨rfl,rfl⟩
end Go.Proofs.YtaamolahbkgofaaGreatDoor.lex
namespace Go.Proofs.YtaamolahbkgofaaGreatDoor.lx
open lex
/-- Each backslash has nine bytes or more behind it. -/
def Sound (t:Bs):Prop:=∀j,t[j]?=some 92→j+9<t.length
theorem Sound.drop {t:Bs} (h:Sound t) (k:Nat):Sound (t.drop k):=by
 intro j hj
 rw [List.getElem?_drop] at hj
 have:=h _ hj
 rw [List.length_drop]
 omega
/-- What a step within quotes may not be: a crash, and a fault where np is true. -/
def Fine (np:Bool):QOut→Prop
 | .ok _ _=>True
 | .bad _=>True
 | .fault=>np=false
 | .crash=>False
def FineS (np:Bool):Step→Prop
 | .stop o=>Fine np o
 | .more _ _ _=>True
def FineO (np:Bool):Out→Prop
 | .tok _ _ _ _ _=>True
 | .bad _=>True
 | .fault=>np=false
 | .crash=>False
theorem ite_fineS {np:Bool} {p:Prop} [Decidable p] {a b:Step} (h1:p→FineS np a) (h2:¬p→FineS np b):FineS np (if p then a else b):=by
 by_cases h:p
 ·rw [if_pos h];exact h1 h
 ·rw [if_neg h];exact h2 h
theorem ite_fineO {np:Bool} {p:Prop} [Decidable p] {a b:Out} (h1:p→FineO np a) (h2:¬p→FineO np b):FineO np (if p then a else b):=by
 by_cases h:p
 ·rw [if_pos h];exact h1 h
 ·rw [if_neg h];exact h2 h
theorem np_fineS {np:Bool} {a:Step} (h:np=true→FineS np a):FineS np (if np then a else .stop .fault):=by
 cases np with
 | true=>exact h rfl
 | false=>exact (rfl:false=false)
theorem escape_fine {np:Bool} {size:Nat} {good:UInt8→Bool} {r content:Bs} {hit:Step} (hs:size≤r.length) (hh:FineS np hit):FineS np (escape np size good r content hit):=by
 unfold escape
 refine ite_fineS (fun _=>hh) fun _=>?_
 cases np with
 | true =>
  simp only [if_true]
  exact ite_fineS (fun h=>by omega) fun _=>trivial
 | false =>
  simp only [Bool.false_eq_true,if_false]
  exact ite_fineS (fun h=>by omega) fun _=>rfl
theorem byte92 {c:UInt8} (h:c.toNat=92):c=92:=UInt8.toNat_inj.1 h
theorem qStep_fine {q:Bs} {raw uni idn np:Bool} {i:Nat} {u content:Bs} {err:Bool} (hu:Sound u):FineS np (qStep q raw uni idn np i u content err):=by
 unfold qStep
 cases u with
 | nil=>exact np_fineS fun _=>trivial
 | cons c r =>
  simp only
  refine ite_fineS (fun _=>ite_fineS (fun _=>np_fineS fun _=>trivial) fun _=>ite_fineS (fun _=>trivial) fun _=>trivial) fun _=>ite_fineS (fun hc=>?_) fun _=>?_
  ·have hl:=hu 0 (by rw [byte92 hc];rfl)
   simp only [List.length_cons] at hl
   cases r with
   | nil=>simp at hl
   | cons d r' =>
    simp only [List.length_cons] at hl
    simp only
    refine ite_fineS (fun _=>trivial) fun _=>?_
    cases simple d with
    | some x=>exact trivial
    | none =>
     simp only
     refine ite_fineS (fun _=>escape_fine (by omega) trivial) fun _=>ite_fineS (fun _=>ite_fineS (fun _=>escape_fine (by split <;> omega) (ite_fineS (fun _=>np_fineS fun _=>trivial) fun _=>trivial)) fun _=>np_fineS fun _=>trivial) fun _=>ite_fineS (fun _=>escape_fine (by omega) trivial) fun _=>np_fineS fun _=>trivial
  ·exact ite_fineS (fun _=>np_fineS fun _=>trivial) fun _=>trivial
theorem quoN_fine {q:Bs} {raw uni idn np:Bool}:∀(n i:Nat) (u content:Bs) (err:Bool),Sound u→u.length<n→Fine np (quoN q raw uni idn np n i u content err)
 | 0,_,_,_,_,_,h=>by omega
 | n+1,i,u,content,err,hu,hn=>by
  unfold quoN
  have hf:=qStep_fine (q:=q) (raw:=raw) (uni:=uni) (idn:=idn) (np:=np) (i:=i) (content:=content) (err:=err) hu
  cases hs:qStep q raw uni idn np i u content err with
  | stop o=>rw [hs] at hf;exact hf
  | more k c' e' =>
   have hm:=qStep_more hs
   exact quoN_fine n (i+k) (u.drop k) c' e' (hu.drop k) (by rw [List.length_drop];omega)
theorem quoted_fine {q:Bs} {raw uni idn np:Bool} {t:Bs} (ht:Sound t):Fine np (quoted q raw uni idn np t) :=
 quoN_fine _ _ _ _ _ (ht.drop _) (by rw [List.length_drop];omega)
theorem ofQ_fine {np:Bool} {k:Bs} {i:Nat} {o:QOut} (h:Fine np o):FineO np (ofQ k i o):=by
 cases o with
 | ok len c=>trivial
 | bad len=>trivial
 | fault=>exact h
 | crash=>exact h
theorem np_fineO {np:Bool} {a:Out} (h:np=true→FineO np a):FineO np (if np then a else .fault):=by
 cases np with
 | true=>exact h rfl
 | false=>exact (rfl:false=false)
theorem number_fine (np:Bool) (t:Bs):FineO np (number np t):=by
 unfold number
 exact ite_fineO (fun _=>np_fineO fun _=>trivial) fun _=>ite_fineO (fun _=>trivial) fun _=>trivial
theorem word_fine (np:Bool) (t:Bs):FineO np (word np t):=by
 unfold word
 exact ite_fineO (fun _=>ite_fineO (fun _=>trivial) fun _=>trivial) fun _=>np_fineO fun _=>trivial
theorem sign2_fine (np:Bool) (t:Bs) (c:UInt8):∀ds:Bs,FineO np (sign2 t c ds)
 | []=>trivial
 | d::ds=>by
  unfold sign2
  exact ite_fineO (fun _=>trivial) fun _=>sign2_fine np t c ds
theorem token_fine (np:Bool) (last:Bs):∀t:Bs,Sound t→FineO np (token np last t)
 | [],_=>trivial
 | c::r,h=>by
  rw [token_eq]
  refine ite_fineO (fun _=>trivial) fun _=>?_
  refine ite_fineO (fun _=>ite_fineO (fun _=>number_fine np _) fun _=>trivial) fun _=>?_
  refine ite_fineO (fun _=>sign2_fine np _ _ _) fun _=>?_
  refine ite_fineO (fun _=>sign2_fine np _ _ _) fun _=>?_
  refine ite_fineO (fun _=>sign2_fine np _ _ _) fun _=>?_
  refine ite_fineO (fun _=>sign2_fine np _ _ _) fun _=>?_
  refine ite_fineO (fun _=>sign2_fine np _ _ _) fun _=>?_
  refine ite_fineO (fun _=>sign2_fine np _ _ _) fun _=>?_
  refine ite_fineO (fun _=>sign2_fine np _ _ _) fun _=>?_
  refine ite_fineO (fun _=>ite_fineO (fun _=>trivial) fun _=>ite_fineO (fun _=>trivial) fun _=>trivial) fun _=>?_
  refine ite_fineO (fun _=>ofQ_fine (quoted_fine h)) fun _=>?_
  refine ite_fineO (fun _=>number_fine np _) fun _=>?_
  refine ite_fineO (fun _=>?_) fun _=>word_fine np _
  cases prefx 3 false false (c::r) with
  | none=>exact word_fine np _
  | some x=>exact ofQ_fine (quoted_fine (h.drop _))
theorem own_fine (np:Bool) (last:Bs) (dot:Bool) (t:Bs) (h:Sound t):FineO np (own np last dot t):=by
 unfold own
 refine ite_fineO (fun _=>?_) fun _=>token_fine np last t h
 unfold field
 exact ite_fineO (fun _=>trivial) fun _=>token_fine np last t h
theorem next_fine {np:Bool} {p:Nat} {last:Bs} {dot:Bool} {t:Bs} (h:Sound t):nextTok np p last dot t≠.crash∧(np=true→nextTok np p last dot t≠.fault):=by
 unfold nextTok
 cases hs:(ahead t).2 with
 | none =>
  simp only
  cases np with
  | true=>exact ⟨(by simp),fun _=>(by simp)⟩
  | false=>exact ⟨(by simp),fun h=>(by cases h)⟩
 | some a =>
  simp only
  have ho:=own_fine np last dot (t.drop (comsLen (ahead t).1+a)) (h.drop _)
  cases hw:own np last dot (t.drop (comsLen (ahead t).1+a)) with
  | tok k len text base d=>exact ⟨(by simp [gotOf]),fun _=>(by simp [gotOf])⟩
  | bad len=>exact ⟨(by simp [gotOf]),fun _=>(by simp [gotOf])⟩
  | fault =>
   rw [hw] at ho
   have ho':np=false:=ho
   exact ⟨(by simp [gotOf]),fun e=>by rw [e] at ho';cases ho'⟩
  | crash=>rw [hw] at ho;exact ho.elim
theorem toksN_fine {np:Bool}:∀(n p:Nat) (last:Bs) (dot:Bool) (t:Bs),Sound t→t.length<n→(toksN np n p last dot t).2≠.crash∧(np=true→(toksN np n p last dot t).2=.ok)
 | 0,_,_,_,_,_,h=>by omega
 | n+1,p,last,dot,t,ht,hn=>by
  have hf:=next_fine (np:=np) (p:=p) (last:=last) (dot:=dot) ht
  unfold toksN
  cases hx:nextTok np p last dot t with
  | fault =>
   refine ⟨by simp,fun e=>?_⟩
   exact absurd hx (hf.2 e)
  | crash=>exact absurd hx hf.1
  | tok k d =>
   simp only
   split
   ·exact ⟨by simp,fun _=>rfl⟩
   ·rename_i hk
    have ha:=next_at hx
    have h1:=ha.more hk
    have h2:=ha.fin
    exact toksN_fine n k.fin k.kind d (t.drop (k.fin-p)) (ht.drop _) (by rw [List.length_drop];omega)
theorem toks_fine (np:Bool) {t:Bs} (h:Sound t):(toks np t).2≠.crash∧(np=true→(toks np t).2=.ok):=toksN_fine _ _ _ _ _ h (by omega)
end Go.Proofs.YtaamolahbkgofaaGreatDoor.lx
namespace Go.Proofs.YtaamolahbkgofaaGreatDoor.lx
open lex
/-- Where comment j begins, with its blanks: the place behind the one before. -/
def atC:Nat→List Cm→Nat→Nat
 | a,_,0=>a
 | a,[],_+1=>a
 | _,c::r,j+1=>atC c.fin r j
/-- Where token i begins, with all ahead of it. -/
def atT:Nat→List Tk→Nat→Nat
 | a,_,0=>a
 | a,[],_+1=>a
 | _,k::r,i+1=>atT k.fin r i
/-- The kind of the token ahead of token i. -/
def lastK:Bs→List Tk→Nat→Bs
 | a,_,0=>a
 | a,[],_+1=>a
 | _,k::r,i+1=>lastK k.kind r i
theorem atC_succ:∀(cs:List Cm) (a j:Nat) (h:j<cs.length),atC a cs (j+1)=cs[j].fin
 | c::r,a,0,_=>rfl
 | c::r,a,j+1,h=>atC_succ r c.fin j (by simpa using h)
theorem atT_succ:∀(l:List Tk) (a i:Nat) (h:i<l.length),atT a l (i+1)=l[i].fin
 | k::r,a,0,_=>rfl
 | k::r,a,i+1,h=>atT_succ r k.fin i (by simpa using h)
theorem lastK_succ:∀(l:List Tk) (a:Bs) (i:Nat) (h:i<l.length),lastK a l (i+1)=l[i].kind
 | k::r,a,0,_=>by cases r <;> rfl
 | k::r,a,i+1,h=>lastK_succ r k.kind i (by simpa using h)
/-- A comment stands where it says; a is the place behind what stands ahead of it. -/
structure ComOk (s:Bs) (a:Nat) (c:Cm):Prop where
 pos:c.pos=a+c.sp.length
 fin:c.fin=c.pos+c.raw.length
 le:c.fin≤s.length
 raw:(s.drop c.pos).take c.raw.length=c.raw
/-- A token stands where it says. -/
structure TokOk (s:Bs) (a:Nat) (k:Tk):Prop where
 coms:∀j (h:j<k.coms.length),ComOk s (atC a k.coms j) k.coms[j]
 pos:k.pos=atC a k.coms k.coms.length+k.sp.length
 fin:k.fin=k.pos+k.raw.length
 le:k.fin≤s.length
 raw:(s.drop k.pos).take k.raw.length=k.raw
theorem comsOf_ok (s:Bs):∀(l:List (Nat × Nat)) (p:Nat) (t:Bs),t=s.drop p→p≤s.length→comsLen l≤t.length →
  (∀j (h:j<(comsOf p t l).length),ComOk s (atC p (comsOf p t l) j) (comsOf p t l)[j])∧atC p (comsOf p t l) (comsOf p t l).length=p+comsLen l
 | [],p,t,_,_,_=>⟨fun j h=>by simp [comsOf] at h,rfl⟩
 | c::r,p,t,ht,hp,hl=>by
  subst ht
  simp only [comsLen,List.length_drop] at hl
  have ih:=comsOf_ok s r (p+c.1+c.2) ((s.drop p).drop (c.1+c.2)) (by rw [List.drop_drop];congr 1;omega) (by omega) (by rw [List.length_drop,List.length_drop];omega)
  have e1:((s.drop p).take c.1).length=c.1:=by rw [List.length_take,List.length_drop];omega
  have e2:(((s.drop p).drop c.1).take c.2).length=c.2:=by rw [List.length_take,List.length_drop,List.length_drop];omega
  refine ⟨fun j h=>?_, ?_⟩
  ·cases j with
   | zero =>
    refine ⟨?_, ?_, ?_, ?_⟩
    ·show p+c.1=p+((s.drop p).take c.1).length
     rw [e1]
    ·show p+c.1+c.2=p+c.1+(((s.drop p).drop c.1).take c.2).length
     rw [e2]
    ·show p+c.1+c.2≤_
     omega
    ·show (s.drop (p+c.1)).take (((s.drop p).drop c.1).take c.2).length=((s.drop p).drop c.1).take c.2
     rw [e2,List.drop_drop]
   | succ j=>exact ih.1 j (by simpa [comsOf] using h)
  ·show atC (p+c.1+c.2) _ _=_
   rw [ih.2]
   simp only [comsLen]
   omega
theorem next_ok {np:Bool} {s:Bs} {p:Nat} {last:Bs} {dot:Bool} {k:Tk} {d:Bool} (hp:p≤s.length) (h:nextTok np p last dot (s.drop p)=.tok k d):TokOk s p k:=by
 have ha:=ahead_le (s.drop p).length (s.drop p) (Nat.le_refl _)
 have hA:=next_at h
 unfold nextTok at h
 cases hs:(ahead (s.drop p)).2 with
 | none =>
  rw [hs] at h
  simp only at h
  have h2:=ha.2 hs
  split at h
  ·cases h
   have hc:=comsOf_ok s (ahead (s.drop p)).1 p (s.drop p) rfl hp (by omega)
   refine ⟨hc.1, ?_,rfl, ?_,rfl⟩
   ·show p+_=_
    rw [hc.2]
    rfl
   ·show p+comsLen _≤_
    rw [h2.1,List.length_drop]
    omega
  ·cases h
 | some a =>
  rw [hs] at h
  simp only at h
  have h1:=ha.1 a hs
  have hc:=comsOf_ok s (ahead (s.drop p)).1 p (s.drop p) rfl hp (by omega)
  have hg:=own_good np last dot ((s.drop p).drop (comsLen (ahead (s.drop p)).1+a))
  have e1:(((s.drop p).drop (comsLen (ahead (s.drop p)).1)).take a).length=a:=by rw [List.length_take,List.length_drop];omega
  have key:∀len,len≤((s.drop p).drop (comsLen (ahead (s.drop p)).1+a)).length→(((s.drop p).drop (comsLen (ahead (s.drop p)).1+a)).take len).length=len:=fun len hl=>by rw [List.length_take];omega
  rw [List.length_drop] at h1
  have eq:s.drop (p+comsLen (ahead (s.drop p)).1+a)=(s.drop p).drop (comsLen (ahead (s.drop p)).1+a):=by rw [List.drop_drop,Nat.add_assoc]
  cases ho:own np last dot ((s.drop p).drop (comsLen (ahead (s.drop p)).1+a)) with
  | fault=>rw [ho] at h;cases h
  | crash=>rw [ho] at h;cases h
  | tok kk len text base d0 =>
   rw [ho] at h hg
   cases h
   have hl:=key len hg.1
   have hg1:=hg.1
   rw [List.length_drop,List.length_drop] at hg1
   refine ⟨hc.1, ?_, ?_, ?_, ?_⟩
   ·show p+_+a=_+_
    rw [hc.2,e1]
   ·show p+_+a+len=p+_+a+_
    rw [hl]
   ·show p+_+a+len≤_
    omega
   ·show (s.drop (p+comsLen (ahead (s.drop p)).1+a)).take (((s.drop p).drop (comsLen (ahead (s.drop p)).1+a)).take len).length=((s.drop p).drop (comsLen (ahead (s.drop p)).1+a)).take len
    rw [hl,eq]
  | bad len =>
   rw [ho] at h hg
   cases h
   have hl:=key len hg.2.2
   have hg1:=hg.2.2
   rw [List.length_drop,List.length_drop] at hg1
   refine ⟨hc.1, ?_, ?_, ?_, ?_⟩
   ·show p+_+a=_+_
    rw [hc.2,e1]
   ·show p+_+a+len=p+_+a+_
    rw [hl]
   ·show p+_+a+len≤_
    omega
   ·show (s.drop (p+comsLen (ahead (s.drop p)).1+a)).take (((s.drop p).drop (comsLen (ahead (s.drop p)).1+a)).take len).length=((s.drop p).drop (comsLen (ahead (s.drop p)).1+a)).take len
    rw [hl,eq]
/-- The tokens that are read one behind the other. -/
def Steps (np:Bool) (s:Bs):Nat→Bs→Bool→List Tk→Prop
 | _,_,_,[]=>True
 | p,last,dot,k::r=>p≤s.length∧∃d,nextTok np p last dot (s.drop p)=.tok k d∧Steps np s k.fin k.kind d r
theorem toksN_steps {np:Bool} {s:Bs}:∀(n p:Nat) (last:Bs) (dot:Bool),p≤s.length→Steps np s p last dot (toksN np n p last dot (s.drop p)).1
 | 0,_,_,_,_=>trivial
 | n+1,p,last,dot,hp=>by
  unfold toksN
  cases hx:nextTok np p last dot (s.drop p) with
  | fault=>trivial
  | crash=>trivial
  | tok k d =>
   simp only
   split
   ·exact ⟨hp,d,hx,trivial⟩
   ·have hk:=next_ok hp hx
    have h1:=(next_at hx).le
    have h2:=(next_at hx).pos
    have e:(s.drop p).drop (k.fin-p)=s.drop k.fin:=by rw [List.drop_drop];congr 1;omega
    rw [e]
    exact ⟨hp,d,hx,toksN_steps n k.fin k.kind d hk.le⟩
theorem ite_P {α:Type} {P:α→Prop} {p:Prop} [Decidable p] {a b:α} (h1:p→P a) (h2:¬p→P b):P (if p then a else b):=by
 by_cases h:p
 ·rw [if_pos h];exact h1 h
 ·rw [if_neg h];exact h2 h
/-- A field's name may follow a point alone. -/
def DotO:Out→Prop
 | .tok k _ _ _ d=>d=some true→k=[46]
 | _=>True
theorem ofQ_dot {k:Bs} {i:Nat} {o:QOut}:DotO (ofQ k i o):=by
 cases o with
 | ok len c=>exact fun h=>(by cases h)
 | bad len=>trivial
 | fault=>trivial
 | crash=>trivial
theorem number_dot (np:Bool) (t:Bs):DotO (number np t):=by
 unfold number
 exact ite_P (fun _=>ite_P (fun _=>trivial) fun _=>trivial) fun _=>ite_P (fun _ h=>(by cases h)) fun _ h=>(by cases h)
theorem word_dot (np:Bool) (t:Bs):DotO (word np t):=by
 unfold word
 exact ite_P (fun _=>ite_P (fun _ h=>(by cases h)) fun _ h=>(by cases h)) fun _=>ite_P (fun _=>trivial) fun _=>trivial
theorem sign2_dot (t:Bs) (c:UInt8):∀ds:Bs,DotO (sign2 t c ds)
 | []=>fun h=>(by cases h)
 | d::ds=>by
  unfold sign2
  exact ite_P (fun _ h=>(by cases h)) fun _=>sign2_dot t c ds
theorem token_dot (np:Bool) (last:Bs):∀t:Bs,DotO (token np last t)
 | []=>fun h=>(by cases h)
 | c::r=>by
  rw [token_eq]
  refine ite_P (fun _ h=>(by cases h)) fun _=>?_
  refine ite_P (fun _=>ite_P (fun _=>number_dot np _) fun _ _=>rfl) fun _=>?_
  refine ite_P (fun _=>sign2_dot _ _ _) fun _=>?_
  refine ite_P (fun _=>sign2_dot _ _ _) fun _=>?_
  refine ite_P (fun _=>sign2_dot _ _ _) fun _=>?_
  refine ite_P (fun _=>sign2_dot _ _ _) fun _=>?_
  refine ite_P (fun _=>sign2_dot _ _ _) fun _=>?_
  refine ite_P (fun _=>sign2_dot _ _ _) fun _=>?_
  refine ite_P (fun _=>sign2_dot _ _ _) fun _=>?_
  refine ite_P (fun _=>ite_P (fun _ h=>(by cases h)) fun _=>ite_P (fun _ h=>(by cases h)) fun _ h=>(by cases h)) fun _=>?_
  refine ite_P (fun _=>ofQ_dot) fun _=>?_
  refine ite_P (fun _=>number_dot np _) fun _=>?_
  refine ite_P (fun _=>?_) fun _=>word_dot np _
  cases prefx 3 false false (c::r) with
  | none=>exact word_dot np _
  | some x=>exact ofQ_dot
theorem next_dot {p:Nat} {last:Bs} {dot:Bool} {t:Bs} {k:Tk} {d:Bool} (h:nextTok false p last dot t=.tok k d) (hd:d=true):k.kind=[46]:=by
 unfold nextTok at h
 cases hs:(ahead t).2 with
 | none=>rw [hs] at h;cases h
 | some a =>
  rw [hs] at h
  simp only at h
  have hg:=own_good false last dot (t.drop (comsLen (ahead t).1+a))
  cases ho:own false last dot (t.drop (comsLen (ahead t).1+a)) with
  | fault=>rw [ho] at h;cases h
  | crash=>rw [ho] at h;cases h
  | bad len=>rw [ho] at hg;cases hg.1
  | tok kk len text base d0 =>
   rw [ho] at h
   cases h
   cases dot with
   | true=>cases hd
   | false =>
    have hd':d0=some true:=by
     cases d0 with
     | none=>cases hd
     | some b=>rw [show b=true from hd]
    have:=token_dot false last (t.drop (comsLen (ahead t).1+a))
    have e:token false last (t.drop (comsLen (ahead t).1+a))=.tok kk len text base d0:=ho
    rw [e] at this
    exact this hd'
/-- Token i of those that are read one behind the other. -/
theorem Steps.get {s:Bs}:∀{l:List Tk} {p:Nat} {last:Bs} {dot:Bool},Steps false s p last dot l→(dot=true→last=[46])→∀i (h:i<l.length),
  ∃dot' d,nextTok false (atT p l i) (lastK last l i) dot' (s.drop (atT p l i))=.tok l[i] d∧(dot'=true→lastK last l i=[46])∧atT p l i≤s.length
 | k::r,p,last,dot,⟨hp,d,hx,hr⟩,hd,0,_=>⟨dot,d,hx,hd,hp⟩
 | k::r,p,last,dot,⟨hp,d,hx,hr⟩,hd,i+1,h=>Steps.get (l:=r) hr (fun e=>next_dot hx e) i (by simpa using h)
/-- Each token stands where it says, read loosely or not. -/
theorem Steps.place {np:Bool} {s:Bs}:∀{l:List Tk} {p:Nat} {last:Bs} {dot:Bool},Steps np s p last dot l→∀i (h:i<l.length),TokOk s (atT p l i) l[i]
 | k::r,p,last,dot,⟨hp,d,hx,hr⟩,0,_=>next_ok hp hx
 | k::r,p,last,dot,⟨hp,d,hx,hr⟩,i+1,h=>Steps.place (l:=r) hr i (by simpa using h)
theorem Steps.fact {np:Bool} {s:Bs}:∀{l:List Tk} {p:Nat} {last:Bs} {dot:Bool},Steps np s p last dot l→∀i (h:i<l.length),At np (atT p l i) (s.drop (atT p l i)) l[i]∧atT p l i≤s.length
 | k::r,p,last,dot,⟨hp,d,hx,hr⟩,0,_=>⟨next_at hx,hp⟩
 | k::r,p,last,dot,⟨hp,d,hx,hr⟩,i+1,h=>Steps.fact (l:=r) hr i (by simpa using h)
theorem toks_steps (np:Bool) (s:Bs):Steps np s 0 [] false (toks np s).1:=by
 have:=toksN_steps (np:=np) (s:=s) (s.length+1) 0 [] false (Nat.zero_le _)
 rwa [List.drop_zero] at this
/-- Where all is read there is a last token, the end, and none ahead of it is one. -/
theorem toksN_last {np:Bool}:∀(n p:Nat) (last:Bs) (dot:Bool) (t:Bs),(toksN np n p last dot t).2=.ok→(toksN np n p last dot t).1.getLast?.map Tk.kind=some kEof
 | 0,_,_,_,_,h=>by cases h
 | n+1,p,last,dot,t,h=>by
  unfold toksN at h ⊢
  cases hx:nextTok np p last dot t with
  | fault=>rw [hx] at h;cases h
  | crash=>rw [hx] at h;cases h
  | tok k d =>
   rw [hx] at h
   simp only at h ⊢
   by_cases hk:k.kind=kEof
   ·rw [if_pos hk]
    exact congrArg some hk
   ·rw [if_neg hk] at h ⊢
    have h1:=toksN_last n k.fin k.kind d (t.drop (k.fin-p)) h
    show (k::(toksN np n k.fin k.kind d (t.drop (k.fin-p))).1).getLast?.map Tk.kind=_
    generalize (toksN np n k.fin k.kind d (t.drop (k.fin-p))).1=l at h1
    cases l with
    | nil=>cases h1
    | cons x y=>simpa [List.getLast?_cons_cons] using h1
theorem last_of {l:List Tk} (h1:l.getLast?.map Tk.kind=some kEof):∃h:0<l.length,(l[l.length-1]'(by omega)).kind=kEof:=by
 rw [List.getLast?_eq_getElem?] at h1
 have h0:0<l.length:=by
  cases l with
  | nil=>cases h1
  | cons x y=>simp
 refine ⟨h0, ?_⟩
 rw [List.getElem?_eq_getElem (by omega)] at h1
 exact Option.some.inj h1
theorem toks_last {np:Bool} {s:Bs} (h:(toks np s).2=.ok):∃h:0<(toks np s).1.length,((toks np s).1[(toks np s).1.length-1]'(by omega)).kind=kEof:=by
 exact last_of (toksN_last _ _ _ _ _ h)
theorem toksN_length {np:Bool}:∀(n p:Nat) (last:Bs) (dot:Bool) (t:Bs),(toksN np n p last dot t).1.length≤t.length+1
 | 0,_,_,_,_=>Nat.zero_le _
 | n+1,p,last,dot,t=>by
  unfold toksN
  cases hx:nextTok np p last dot t with
  | fault=>exact Nat.zero_le _
  | crash=>exact Nat.zero_le _
  | tok k d =>
   simp only
   by_cases hk:k.kind=kEof
   ·rw [if_pos hk]
    simp
   ·rw [if_neg hk]
    have h1:=toksN_length (np:=np) n k.fin k.kind d (t.drop (k.fin-p))
    have h2:=(next_at hx).more hk
    have h3:=(next_at hx).fin
    rw [List.length_drop] at h1
    simp only [List.length_cons]
    omega
theorem toks_length (np:Bool) (s:Bs):(toks np s).1.length≤s.length+1:=toksN_length _ _ _ _ _
theorem toks_coms {np:Bool} {s:Bs} (i:Nat) (h:i<(toks np s).1.length):(toks np s).1[i].coms.length≤s.length:=by
 have h1:=((toks_steps np s).fact i h).1.coms
 rw [List.length_drop] at h1
 omega
/-- .. and the last token ends with the text. -/
theorem toks_end {np:Bool} {s:Bs} (h:(toks np s).2=.ok):atT 0 (toks np s).1 (toks np s).1.length=s.length:=by
 obtain ⟨h1,h2⟩:=toks_last h
 have hf:=(toks_steps np s).fact ((toks np s).1.length-1) (by omega)
 have e:=hf.1.eof h2
 have e2:(toks np s).1.length=((toks np s).1.length-1)+1:=by omega
 rw [e2,atT_succ _ _ _ (by omega),e,List.length_drop]
 have:=hf.2
 omega
end Go.Proofs.YtaamolahbkgofaaGreatDoor.lx
namespace Go.Proofs.YtaamolahbkgofaaGreatDoor.lx
open lex
/-- A word: a letter or an underscore, with letters, digits and underscores behind it. -/
def wordB:Bs→Bool
 | []=>false
 | c::r=>isIdS c.toNat&&r.all idP
def special:List Bs:=[kEof,kIdent,kParam,kInt,kFloat,kString,kBytes]
/-- What is known of a token by its kind; field: it stands behind a point. -/
inductive FormP (kind raw text:Bs) (base:Nat) (field:Prop):Prop
 | eof (h1:kind=kEof) (h2:raw=[]) (h3:text=[]) (h4:base=0)
 | quote (h1:kind=kIdent) (h2:raw.head?=some 96) (h3:2<raw.length) (h4:raw.getLast?=some 96) (h5:text≠[]) (h6:base=0) (h7:text.length+2≤raw.length)
 | name (h1:kind=kIdent) (h2:text=raw) (h3:base=0) (h4:∃c r,raw=c::r∧c≠96) (h5:field∨(wordB raw=true∧keyword (raw.map plain.up)=false))
 | param (h1:kind=kParam) (h2:raw.head?=some 64) (h3:text≠[]) (h4:base=0)
 | int10 (h1:kind=kInt) (h2:text=[]) (h3:base=10) (h4:∃c r,raw=c::r∧dig c=true∧¬(c=48∧∃d r',r=d::r'∧(d=120∨d=88)))
 | int16 (h1:kind=kInt) (h2:text=[]) (h3:base=16) (h4:∃d r,raw=48::d::r∧(d=120∨d=88))
 | float (h1:kind=kFloat) (h2:text=[]) (h3:base=0) (h4:∃c d r,raw=c::d::r∧(dig c=true∨c=46))
 | str (h1:kind=kString∨kind=kBytes) (h2:base=0) (h3:1<raw.length) (h4:raw.getLast?=some 39∨raw.getLast?=some 34)
 | kw (h1:kind=raw.map plain.up) (h2:keyword kind=true) (h3:text=[]) (h4:base=0) (h5:special.contains kind=false)
 | sign (h1:kind=raw) (h2:text=[]) (h3:base=0) (h4:raw.length≤2) (h5:keyword (raw.map plain.up)=false)
def FormO (t:Bs) (field:Prop):Out→Prop
 | .tok k len text base _=>FormP k (t.take len) text base field
 | _=>True
theorem kws_len:kws.all (fun k=>decide (2≤k.length))=true:=by decide
theorem kws_head:kws.all (fun k=>match k with|[]=>false|c::_=>decide (65≤c.toNat∧c.toNat≤90))=true:=by decide
theorem kws_special:kws.all (fun k=>!special.contains k)=true:=by decide
theorem keyword_mem {k:Bs} (h:keyword k=true):k∈kws:=by simpa [keyword] using h
theorem keyword_short {k:Bs} (h:k.length≤1):keyword k=false:=by
 cases hk:keyword k with
 | false=>rfl
 | true =>
  have:=List.all_eq_true.1 kws_len k (keyword_mem hk)
  simp at this
  omega
theorem keyword_head {c:UInt8} {r:Bs} (h:¬(65≤c.toNat∧c.toNat≤90)):keyword (c::r)=false:=by
 cases hk:keyword (c::r) with
 | false=>rfl
 | true =>
  have:=List.all_eq_true.1 kws_head _ (keyword_mem hk)
  exact absurd (by simpa using this) h
theorem keyword_special {k:Bs} (h:keyword k=true):special.contains k=false:=by
 have:=List.all_eq_true.1 kws_special _ (keyword_mem h)
 simpa using this
theorem tok1_form (c:UInt8) (r:Bs) (field:Prop) (d:Option Bool):FormO (c::r) field (.tok [c] 1 [] 0 d) :=
 .sign rfl rfl rfl (by simp) (keyword_short (by simp))
theorem nb_get {t:Bs} {i:Nat} {d:UInt8} (h:nb t i=d.toNat):t[i]?=some d:=by
 unfold nb at h
 split at h
 ·rename_i c hc
  rw [hc,UInt8.toNat_inj.1 h]
 ·have:=d.toNat_lt
  omega
theorem two_take {c d:UInt8} {r:Bs} (h:nb (c::r) 1=d.toNat):(c::r).take 2=[c,d]:=by
 have:=nb_get h
 cases r with
 | nil=>simp at this
 | cons x y=>simpa using this
theorem sign2_form (c:UInt8) (r:Bs) (field:Prop) (hc:keyword [c]=false→¬(97≤c.toNat∧c.toNat≤122)∧¬(65≤c.toNat∧c.toNat≤90)):∀ds:Bs,FormO (c::r) field (sign2 (c::r) c ds)
 | []=>tok1_form c r field _
 | d::ds=>by
  unfold sign2
  refine ite_P (fun h=>?_) fun _=>sign2_form c r field hc ds
  show FormP [c,d] ((c::r).take 2) [] 0 field
  have hh:=hc (keyword_short (by simp))
  rw [two_take h]
  refine .sign rfl rfl rfl (by simp) ?_
  rw [List.map_cons,plain.up_miss hh.1]
  exact keyword_head hh.2
theorem idLen_all:∀t:Bs,(t.take (idLen t)).all idP=true
 | []=>rfl
 | c::r=>by
  unfold idLen
  by_cases h:idP c=true
  ·rw [if_pos h]
   have:(c::r).take (1+idLen r)=c::r.take (idLen r):=by rw [Nat.add_comm];rfl
   rw [this,List.all_cons,h,idLen_all r]
   rfl
  ·rw [if_neg h]
   rfl
theorem idP_ne {c:UInt8} (h:idP c=true):c≠96:=by
 rintro rfl
 exact absurd h (by decide)
theorem take_pos {t:Bs} {n:Nat} (h:1≤n) (ht:t≠[]):∃c r,t=c::r∧t.take n=c::r.take (n-1):=by
 cases t with
 | nil=>exact absurd rfl ht
 | cons c r =>
  refine ⟨c,r,rfl, ?_⟩
  cases n with
  | zero=>omega
  | succ n=>simp
theorem id_head {t:Bs} (h:isId (nb t 0)=true):∃c r,t.take (idLen t)=c::r∧c≠96∧r.all idP=true∧isId c.toNat=true∧nb t 0=c.toNat:=by
 have hp:=idLen_pos h
 have ht:t≠[]:=by
  rintro rfl
  exact absurd h (by decide)
 obtain ⟨c,r,rfl,e⟩:=take_pos hp ht
 have ha:=idLen_all (c::r)
 rw [e,List.all_cons,Bool.and_eq_true] at ha
 exact ⟨c,_,e,idP_ne ha.1,ha.2,h,rfl⟩
theorem word_form (t:Bs) (field:Prop):FormO t field (word false t):=by
 unfold word
 refine ite_P (fun h=>?_) fun _=>ite_P (fun h=>(by cases h)) fun _=>trivial
 obtain ⟨c,r,e,h1,h2,h3,h4⟩:=id_head (idS_P h)
 cases hk:keyword ((t.take (idLen t)).map plain.up) with
 | true =>
  rw [if_pos rfl]
  exact .kw rfl hk rfl rfl (keyword_special hk)
 | false =>
  rw [if_neg (by simp)]
  refine .name rfl rfl rfl ⟨c,r,e,h1⟩ (.inr ⟨?_,hk⟩)
  rw [e]
  show (isIdS c.toNat&&r.all idP)=true
  rw [←h4,h,h2]
  rfl
theorem last_take {t q:Bs} {j:Nat} {x:UInt8} (h:(t.drop j).take q.length=q) (hq:q.getLast?=some x):(t.take (j+q.length)).getLast?=some x:=by
 rw [List.take_add,h,List.getLast?_append,hq]
 rfl
theorem quote_form {t:Bs} {c:UInt8} {r:Bs} (ht:t=c::r) (hc:c=96) (field:Prop):FormO t field (ofQ kIdent 0 (quoted [96] false true true false t)):=by
 cases hr:quoted [96] false true true false t with
 | bad len=>trivial
 | fault=>trivial
 | crash=>trivial
 | ok len x =>
  obtain ⟨j,a1,a2,a3,a4,a5,a6⟩:=quoted_ok (q:=[96]) (by rw [ht];simp) hr
  have hx:=a6 rfl
  have hl:1≤x.length:=by
   cases x with
   | nil=>exact absurd rfl hx
   | cons a b=>simp
  simp only [List.length_cons,List.length_nil] at a1 a2 a3 a5
  show FormP kIdent (t.take (0+len)) x 0 field
  rw [Nat.zero_add]
  refine .quote rfl ?_ ?_ ?_ hx rfl ?_
  ·rw [ht,hc]
   cases len with
   | zero=>omega
   | succ n=>rfl
  ·rw [List.length_take]
   omega
  ·rw [a2]
   exact last_take (q:=[96]) a3 rfl
  ·rw [List.length_take]
   omega
theorem delim_last {t:Bs} {c:UInt8} {r:Bs} (ht:t=c::r):(delim t).getLast?=some c:=by
 subst ht
 unfold delim
 simp only
 split <;> rfl
theorem prefx_quote:∀(n:Nat) (by_ ra:Bool) (t:Bs) (x:Bool × Bool × Nat),prefx n by_ ra t=some x→∃c r,t.drop x.2.2=c::r∧(c=34∨c=39)
 | 0,_,_,_,_,h=>by cases h
 | n+1,_,_,[],_,h=>by cases h
 | n+1,by_,ra,c::r,x,h=>by
  unfold prefx at h
  split at h
  ·cases hp:prefx n true ra r with
   | none=>rw [hp] at h;cases h
   | some y =>
    rw [hp] at h
    have:=prefx_quote n true ra r y hp
    cases h
    exact this
  ·split at h
   ·cases hp:prefx n by_ true r with
    | none=>rw [hp] at h;cases h
    | some y =>
     rw [hp] at h
     have:=prefx_quote n by_ true r y hp
     cases h
     exact this
   ·split at h
    ·rename_i hq
     cases h
     refine ⟨c,r,rfl, ?_⟩
     rcases hq with hq|hq
     ·exact .inl (UInt8.toNat_inj.1 hq)
     ·exact .inr (UInt8.toNat_inj.1 hq)
    ·cases h
theorem str_form {t:Bs} {by_ ra:Bool} {i:Nat} {c:UInt8} {r:Bs} (ht:t.drop i=c::r) (hc:c=34∨c=39) (field:Prop):FormO t field (strTok by_ ra false i t):=by
 unfold strTok
 have hd:=delim_le (t:=t.drop i) (by rw [ht];simp)
 have hl:=delim_last ht
 cases hr:quoted (delim (t.drop i)) ra (!by_) false false (t.drop i) with
 | bad len=>trivial
 | fault=>trivial
 | crash=>trivial
 | ok len x =>
  obtain ⟨j,a1,a2,a3,a4,a5,a6⟩:=quoted_ok hd.2 hr
  rw [List.length_drop] at a4
  show FormP (if by_ then kBytes else kString) (t.take (i+len)) x 0 field
  refine .str ?_ rfl ?_ ?_
  ·cases by_ <;> simp
  ·rw [List.length_take]
   omega
  ·rw [a2,←Nat.add_assoc]
   rw [List.drop_drop] at a3
   have h1:=last_take (t:=t) (j:=i+j) a3 hl
   rw [h1]
   rcases hc with rfl|rfl
   ·exact .inr rfl
   ·exact .inl rfl
theorem numScan_two {b16:Bool}:∀(n:Nat) (exp:Bool) (t:Bs),(numScan b16 n true exp t).2=false→1≤(numScan b16 n true exp t).1
 | 0,_,_,h=>by simp [numScan] at h
 | n+1,_,[],h=>by simp [numScan] at h
 | n+1,exp,c::r,h=>by
  unfold numScan at h ⊢
  revert h
  refine ite_P (P:=fun x:Nat × Bool=>x.2=false→1≤x.1) (fun _ _=>by simp) fun _=>?_
  refine ite_P (P:=fun x:Nat × Bool=>x.2=false→1≤x.1) (fun _ _=>by simp) fun _=>?_
  refine ite_P (P:=fun x:Nat × Bool=>x.2=false→1≤x.1) (fun _ _=>by simp) fun _=>?_
  refine ite_P (P:=fun x:Nat × Bool=>x.2=false→1≤x.1) (fun _=>?_) fun _ h=>(by cases h)
  refine ite_P (P:=fun x:Nat × Bool=>x.2=false→1≤x.1) (fun _=>?_) fun _=>?_
  iterate 2
   ·exact ite_P (P:=fun x:Nat × Bool=>x.2=false→1≤x.1) (fun _ _=>by simp) fun _ h=>(by cases h)
theorem numScan_flo {b16:Bool}:∀(n:Nat) (exp:Bool) (t:Bs),(numScan b16 n false exp t).2=false
 | 0,_,_=>rfl
 | n+1,_,[]=>rfl
 | n+1,exp,c::r=>by
  unfold numScan
  refine ite_P (P:=fun x:Nat × Bool=>x.2=false) (fun _=>numScan_flo n exp r) fun _=>?_
  refine ite_P (P:=fun x:Nat × Bool=>x.2=false) (fun _=>numScan_flo n exp r) fun _=>?_
  refine ite_P (P:=fun x:Nat × Bool=>x.2=false) (fun _=>numScan_flo n exp r) fun _=>?_
  refine ite_P (P:=fun x:Nat × Bool=>x.2=false) (fun _=>?_) fun _=>rfl
  refine ite_P (P:=fun x:Nat × Bool=>x.2=false) (fun _=>?_) fun _=>?_
  iterate 2
   ·exact ite_P (P:=fun x:Nat × Bool=>x.2=false) (fun _=>numScan_flo n true _) fun _=>rfl
theorem numScan_16:∀(n:Nat) (exp:Bool) (t:Bs),(numScan true n true exp t).2=true
 | 0,_,_=>rfl
 | n+1,_,[]=>rfl
 | n+1,exp,c::r=>by
  unfold numScan
  refine ite_P (P:=fun x:Nat × Bool=>x.2=true) (fun h=>(by simp at h)) fun _=>?_
  refine ite_P (P:=fun x:Nat × Bool=>x.2=true) (fun _=>numScan_16 n exp r) fun _=>?_
  refine ite_P (P:=fun x:Nat × Bool=>x.2=true) (fun h=>(by simp at h)) fun _=>?_
  exact ite_P (P:=fun x:Nat × Bool=>x.2=true) (fun h=>(by simp at h)) fun _=>rfl
theorem dg_dig {c:UInt8} (h:isDg c.toNat=true):dig c=true:=h
theorem number_form {c:UInt8} {r:Bs} (h:dig c=true∨(c=46∧isDg (nb r 0)=true)) (field:Prop):FormO (c::r) field (number false (c::r)):=by
 unfold number
 simp only
 cases hb:(decide (nb (c::r) 0=48)&&(decide (nb (c::r) 1=120)||decide (nb (c::r) 1=88))) with
 | true =>
  simp only [if_true]
  have hb':nb (c::r) 0=48∧(nb (c::r) 1=120∨nb (c::r) 1=88):=by
   simp only [Bool.and_eq_true,Bool.or_eq_true,decide_eq_true_eq] at hb
   exact hb
  have hc:c=48:=UInt8.toNat_inj.1 hb'.1
  refine ite_P (fun _=>ite_P (fun h=>(by cases h)) fun _=>trivial) fun _=>?_
  have ht:∃d r',r=d::r'∧(d=120∨d=88):=by
   rcases hb'.2 with h1|h1
   ·have:=nb_get (d:=120) h1
    cases r with
    | nil=>simp at this
    | cons x y=>exact ⟨x,y,rfl,.inl (by simpa using this)⟩
   ·have:=nb_get (d:=88) h1
    cases r with
    | nil=>simp at this
    | cons x y=>exact ⟨x,y,rfl,.inr (by simpa using this)⟩
  obtain ⟨d,r',rfl,hd⟩:=ht
  have hint:(numScan true (c::d::r').length true false ((c::d::r').drop 2)).2=true:=numScan_16 _ _ _
  refine ite_P (fun _=>?_) fun hn=>absurd hint hn
  refine .int16 rfl rfl rfl ⟨d,((c::d::r').drop 2).take (numScan true (c::d::r').length true false ((c::d::r').drop 2)).1, ?_,hd⟩
  subst hc
  rfl
 | false =>
  simp only [Bool.false_eq_true,if_false]
  refine ite_P (fun _=>trivial) fun _=>?_
  refine ite_P (fun hi=>?_) fun hi=>?_
  ·rcases h with h|⟨rfl,h⟩
   ·have hp:1≤(numScan false (c::r).length true false (c::r)).1:=numScan_pos (.inl h)
    generalize (numScan false (c::r).length true false (c::r)).1=n at hp
    show FormP kInt ((c::r).take n) [] 10 field
    cases n with
    | zero=>omega
    | succ n =>
     refine .int10 rfl rfl rfl ⟨c,r.take n,rfl,h, ?_⟩
     rintro ⟨rfl,d,r',e,hd⟩
     cases r with
     | nil=>simp at e
     | cons x y =>
      cases n with
      | zero=>simp at e
      | succ n =>
       simp only [List.take_succ_cons,List.cons.injEq] at e
       rw [e.1] at hb
       rcases hd with rfl|rfl <;> exact absurd hb (by simp [nb])
   ·exfalso
    have:(numScan false ((46:UInt8)::r).length true false (46::r)).2=false:=by
     rw [List.length_cons]
     unfold numScan
     simp [show dig 46=false from by decide]
     exact numScan_flo _ _ _
    rw [this] at hi
    cases hi
  ·have hi':(numScan false (c::r).length true false (c::r)).2=false:=by simpa using hi
   have h2:2≤(numScan false (c::r).length true false (c::r)).1:=by
    rw [List.length_cons] at hi' ⊢
    unfold numScan at hi' ⊢
    rcases h with h|⟨rfl,h⟩
    ·rw [if_pos (by simp [h])] at hi' ⊢
     have:=numScan_two _ _ _ hi'
     show 2≤_+1
     omega
    ·rw [if_neg (by decide),if_neg (by decide),if_pos (by decide)]
     cases r with
     | nil=>exact absurd h (by decide)
     | cons x y =>
      have hx:dig x=true:=h
      rw [List.length_cons]
      unfold numScan
      rw [if_pos (by simp [hx])]
      show 2≤_+1+1
      omega
   have hl:=numScan_le false (c::r).length true false (c::r)
   generalize (numScan false (c::r).length true false (c::r)).1=n at h2 hl
   show FormP kFloat ((c::r).take n) [] 0 field
   cases r with
   | nil=>simp at hl;omega
   | cons x y =>
    cases n with
    | zero=>omega
    | succ n =>
     cases n with
     | zero=>omega
     | succ n =>
      refine .float rfl rfl rfl ⟨c,x,y.take n,rfl, ?_⟩
      rcases h with h|h
      ·exact .inl h
      ·exact .inr h.1
theorem token_form (last:Bs) (field:Prop):∀t:Bs,FormO t field (token false last t)
 | []=>.eof rfl rfl rfl rfl
 | c::r=>by
  rw [token_eq]
  refine ite_P (fun _=>tok1_form c r field _) fun _=>?_
  refine ite_P (fun h46=>ite_P (fun h=>number_form (.inr ⟨h46,h.2⟩) field) (fun _=>by subst h46;exact tok1_form 46 r field _)) fun _=>?_
  refine ite_P (fun h=>by subst h;exact sign2_form 60 r field (fun _=>by decide) _) fun _=>?_
  refine ite_P (fun h=>by subst h;exact sign2_form 62 r field (fun _=>by decide) _) fun _=>?_
  refine ite_P (fun h=>by subst h;exact sign2_form 43 r field (fun _=>by decide) _) fun _=>?_
  refine ite_P (fun h=>by subst h;exact sign2_form 45 r field (fun _=>by decide) _) fun _=>?_
  refine ite_P (fun h=>by subst h;exact sign2_form 61 r field (fun _=>by decide) _) fun _=>?_
  refine ite_P (fun h=>by subst h;exact sign2_form 124 r field (fun _=>by decide) _) fun _=>?_
  refine ite_P (fun h=>by subst h;exact sign2_form 33 r field (fun _=>by decide) _) fun _=>?_
  refine ite_P (fun hc=>?_) fun _=>?_
  ·subst hc
   refine ite_P (fun h=>?_) fun _=>ite_P (fun h=>?_) fun _=>tok1_form 64 r field _
   ·show FormP [64,64] (((64:UInt8)::r).take 2) [] 0 field
    have h':nb ((64:UInt8)::r) 1=(64:UInt8).toNat:=h
    rw [two_take h']
    exact .sign rfl rfl rfl (by simp) (by decide)
   ·obtain ⟨d,r',e,_⟩:=id_head (idS_P h)
    show FormP kParam (((64:UInt8)::r).take (1+idLen r)) (r.take (idLen r)) 0 field
    exact .param rfl (by rw [Nat.add_comm];rfl) (by rw [e];simp) rfl
  refine ite_P (fun hc=>by subst hc;exact quote_form rfl rfl field) fun _=>?_
  refine ite_P (fun hd=>number_form (.inl hd) field) fun _=>?_
  refine ite_P (fun _=>?_) (fun _=>word_form _ field)
  cases hp:prefx 3 false false (c::r) with
  | none=>exact word_form _ field
  | some x =>
   obtain ⟨by_,ra,i⟩:=x
   obtain ⟨d,r',e,hd⟩:=prefx_quote 3 false false (c::r) _ hp
   exact str_form e hd field
theorem own_form (last:Bs) (dot:Bool) (field:Prop) (hf:dot=true→field) (t:Bs):FormO t field (own false last dot t):=by
 unfold own
 refine ite_P (fun hd=>?_) fun _=>token_form last field t
 unfold lx.field
 refine ite_P (fun h=>?_) fun _=>token_form last field t
 obtain ⟨c,r,e,h1,h2,h3,h4⟩:=id_head h
 exact .name rfl rfl rfl ⟨c,r,e,h1⟩ (.inl (hf hd))
theorem next_form {p:Nat} {last:Bs} {dot:Bool} {field:Prop} {t:Bs} {k:Tk} {d:Bool} (hf:dot=true→field) (h:nextTok false p last dot t=.tok k d):FormP k.kind k.raw k.text k.base field:=by
 unfold nextTok at h
 cases hs:(ahead t).2 with
 | none=>rw [hs] at h;cases h
 | some a =>
  rw [hs] at h
  simp only at h
  have hg:=own_form last dot field hf (t.drop (comsLen (ahead t).1+a))
  have hb:=own_good false last dot (t.drop (comsLen (ahead t).1+a))
  cases ho:own false last dot (t.drop (comsLen (ahead t).1+a)) with
  | fault=>rw [ho] at h;cases h
  | crash=>rw [ho] at h;cases h
  | bad len=>rw [ho] at hb;cases hb.1
  | tok kk len text base d0 =>
   rw [ho] at h hg
   cases h
   exact hg
/-- Each token has the form of its kind. -/
theorem toks_form (s:Bs) (i:Nat) (h:i<(toks false s).1.length):FormP (toks false s).1[i].kind (toks false s).1[i].raw (toks false s).1[i].text (toks false s).1[i].base (lastK [] (toks false s).1 i=[46]):=by
 obtain ⟨dot',d,h1,h2,_⟩:=(toks_steps false s).get (fun e=>by cases e) i h
 exact next_form h2 h1
end Go.Proofs.YtaamolahbkgofaaGreatDoor.lx
set_option linter.unusedVariables false
namespace Go.Proofs.YtaamolahbkgofaaGreatDoor.lex
open Go.RowKit mem lines plain
/-- errors.errorType as the library lays it. -/
def ErrT (w:World):Prop:=w.cell? ⟨0,0,none⟩=some (.iface 140 (.agg #[.pointer (some ⟨12,54,none⟩)]))
theorem ErrT.below {w w':World} (h:ErrT w) (hb:Below w.heap.size w w'):ErrT w':=(hb.cell (lt_of_cell h)).trans h
def okB:lx.End→Bool
 | .ok=>true
 | _=>false
/-- What Lex comes to. -/
def LexOut (s:ByteArray) (w:World) (e:Ending) (w':World):Prop :=
 ∃v z,e=.returned (.tuple #[v,.int .i64 z,.bool (okB (lx.toks false s.data.toList).2)])∧ToksAt w' v (lx.toks false s.data.toList).1∧Below w.heap.size w w'
/-- The tables of the library, and errors.errorType. -/
structure Lib0 (w:World):Prop where
 tabs:TabsAt w
 err:ErrT w
theorem Lib0.below {w w':World} (h:Lib0 w) (hb:Below w.heap.size w w'):Lib0 w':=⟨h.tabs.below hb,h.err.below hb⟩
theorem sound_of {s:ByteArray} (h:brittleB s=false):lx.Sound s.data.toList:=by
 intro j hj
 have hl:j<s.data.toList.length:=(List.getElem?_eq_some_iff.1 hj).1
 rcases Nat.lt_or_ge (j+9) s.data.toList.length with hh|hh
 ·exact hh
 ·exfalso
  have hsz:s.data.toList.length=s.size:=by simp
  have hc:brittleB s=true:=by
   rw [brittleB,List.contains_iff_mem]
   have e:(s.data.toList.drop (s.size-9))[j-(s.size-9)]?=some 92:=by
    rw [List.getElem?_drop,show s.size-9+(j-(s.size-9))=j from by omega]
    exact hj
   exact List.mem_of_getElem? e
  rw [h] at hc
  cases hc
end Go.Proofs.YtaamolahbkgofaaGreatDoor.lex
