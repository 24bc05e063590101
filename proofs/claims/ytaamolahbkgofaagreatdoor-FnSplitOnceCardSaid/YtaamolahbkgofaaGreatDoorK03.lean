/-
  Contracts of the lexer's functions that pass over blanks and comments. Walks of (*token.File).Position and of what the lexer's errors are made by. Contracts of the lexer's functions that make its errors and panic with them. Contracts of the lexer's functions that pass over comments. Contract of the lexer's skipComment. Contracts of peekDelimiter and isNextDotIdent. Contracts of char.ToUpper, token.IsKeyword and impl.IsKeyword. Numbers, plain: the steps of the scan over a number's bytes. No program in sight. What a function that reads a token comes to. The tokens of a text as plain Lean: one token with all that stands ahead of it, and all of them. Plain lemmas on what stands ahead of a token: blanks and comments. Conditions: of each, in its statement.
-/
import Derived.Test.YtaamolahbkgofaaGreatDoorK02
import Derived.Deep.RegionHeld3
import Derived.Lib.RuneCount
import Derived.Deep.RegionWith
import Derived.Lib.ItoaLen
import Derived.Lib.SliceRun
import Derived.Test.YtaamolahbkgofaaGreatDoorK01
namespace Go.Proofs.YtaamolahbkgofaaGreatDoor.lex
open Go.RowKit mem lines
theorem spLen_le (t:lx.Bs):lx.spLen t≤t.length:=by
 by_cases h:t=[]
 ·subst h;decide
 ·show Lib.headSpace t≤_
  rw [Lib.headSpace_eq t h]
  split
  ·exact (Lib.space_has_seq t h (by assumption)).2
  ·exact Nat.zero_le _
theorem spacesN_more:∀(n m:Nat) (t:lx.Bs),t.length≤n→n≤m→lx.spacesN m t=lx.spacesN n t:=by
 intro n
 induction n with
 | zero =>
  intro m t h _
  have:t=[]:=List.length_eq_zero_iff.1 (by omega)
  subst this
  cases m with
  | zero=>rfl
  | succ m=>simp [lx.spacesN,show lx.spLen []=0 from by decide]
 | succ n ih =>
  intro m t h hm
  obtain ⟨m',rfl⟩:∃m',m=m'+1:=⟨m-1,by omega⟩
  simp only [lx.spacesN]
  split
  ·rfl
  ·rename_i hz
   rw [ih m' _ (by simp;omega) (by omega)]
theorem spaces_step (t:lx.Bs):lx.spaces t=if lx.spLen t=0 then 0 else lx.spLen t+lx.spaces (t.drop (lx.spLen t)):=by
 unfold lx.spaces
 cases t with
 | nil=>simp [lx.spacesN,show lx.spLen []=0 from by decide]
 | cons c r =>
  rw [List.length_cons,lx.spacesN]
  split
  ·rfl
  ·rename_i hz
   rw [spacesN_more ((c::r).drop (lx.spLen (c::r))).length r.length _ (Nat.le_refl _) (by simp;omega)]
theorem spaces_nil:lx.spaces []=0:=by rw [spaces_step];simp [show lx.spLen []=0 from by decide]
theorem spaces_le:∀t:lx.Bs,lx.spaces t≤t.length:=by
 intro t
 induction hn:t.length using Nat.strongRecOn generalizing t with
 | _ n ih =>
  rw [spaces_step]
  split
  ·exact Nat.zero_le _
  ·rename_i hz
   have h1:=spLen_le t
   have h2:=ih _ (by simp;omega) (t.drop (lx.spLen t)) rfl
   simp at h2
   omega
theorem rune_range (s:ByteArray):(Lib.decodeGo s).1≤2147483647∧(Lib.decodeGo s).2≤4:=by
 unfold Lib.decodeGo
 split
 ·simp
 ·rw [Lib.decode_at]
  have l0:=(s.get! 0).toNat_lt
  have l1:=(s.get! (0+1)).toNat_lt
  have l2:=(s.get! (0+2)).toNat_lt
  have l3:=(s.get! (0+3)).toNat_lt
  generalize (s.get! 0).toNat=b0 at *
  generalize (s.get! (0+1)).toNat=b1 at *
  generalize (s.get! (0+2)).toNat=b2 at *
  generalize (s.get! (0+3)).toNat=b3 at *
  unfold Lib.decodeN
  repeat' split
  all_goals simp only
  all_goals omega
/-- What is known of the lexer while a statement reads it. -/
structure Held (w:World) (B b f:Nat) (s:ByteArray) (x:St) (W:World):Prop where
 lex:LexS W B b f s x
 grown:w.grownBy W (some b)
section
variable {w W W':World} {B b f:Nat} {s:ByteArray} {x:St}
theorem held_S (h:Hid (Held w B b f s x W)) :
  W.cell? ⟨b,0,none⟩=some (.pointer (some ⟨f,0,none⟩))∧W.cell? ⟨f,1,none⟩=some (.string s)∧W.cell? ⟨b,9,none⟩=some (.int .i64 (x.at_:Int))∧Hid (Held w B b f s x W):=⟨h.out.lex.at.file,h.out.lex.at.text,h.out.lex.at.pos,h⟩
theorem held_drew (h:Hid (Held w B b f s x W)):Hid (Held w B b f s x W.drew):=⟨h.out.lex.drewN 1,grown_drew h.out.grown⟩
theorem held_below (h:Hid (Held w B b f s x W)) (hb:Hid (Below W.heap.size W W')):Hid (Held w B b f s x W'):=⟨h.out.lex.below hb.out,grown_trans h.out.grown (grown_below hb.out _)⟩
theorem held_utf (h:Hid (Held w B b f s x W)):Lib.Utf8Tabs 3 4 W:=h.out.lex.tabs.at.utf
end
set_option maxHeartbeats 4000000 in
set_option maxRecDepth 100000 in
theorem skipSpaces_any {w:World} {B b f:Nat} {s:ByteArray} {x:St} (h:LexS w B b f s x) :
  Calls Tryz.prog 54 #[.pointer (some ⟨b,0,none⟩)] w (Goes B b f s { x with at_:=x.at_+lx.spaces (rest s x.at_) } w):=by
 have HH:=Lib.hid h
 have SZ:=h.sz
 have LE:=h.le
 clear h
 go_enter Tryz.func54,Tryz.ntmps54
 go_wp2_with fail
 go_loopw [] (fun wr=>∃k:Nat,Hid (LexS wr B b f s { x with at_:=k })∧Hid (w.grownBy wr (some b))∧Hid (k+lx.spaces (rest s k)=x.at_+lx.spaces (rest s x.at_))∧k≤s.size) (fun wr=>s.size-placeIn wr b)
 case atStart=>exact ⟨x.at_,HH.out,grown_refl _ _,rfl,LE⟩
 case round =>
  obtain ⟨k,HL,HG,HE,hk⟩:=hrel
  by_cases hin:k<s.size
  ·have hI:=Lib.hid (show inB s k=true by simpa [inB] using hin)
   have hI2:(!(inB s k))=false:=by rw [hI.out];rfl
   go_wp2_with (go_at_call 72;refine (eof_any HL.out.at (by omega) (by simp;omega)).mono ?_;simp only [hI2];rintro e w' ⟨rfl,n,rfl⟩)
   have HH2:=Held.mk (w:=w) (HL.out.drewN n) (grown_drewN HG.out n)
   have HK:=Lib.hid HH2
   generalize wr.drewN n=w2 at HH2 HK ⊢
   obtain ⟨c0,c1,c9⟩:=HH2.lex.at
   have i1:(k:Int)≤(s.size:Int):=by omega
   have i2:((k:Int)).toNat=k:=by omega
   have HS:=Lib.hid (isSpace_rest s k hin)
   have HR:=Lib.hid (rune_range (s.extract k s.size))
   generalize hd:Lib.decodeGo (s.extract k s.size)=d at HS HR
   have HD:=Lib.hid hd
   clear hd HH2
   go_region_held3 (fun W=>W.cell? ⟨b,0,none⟩=some (.pointer (some ⟨f,0,none⟩))∧W.cell? ⟨f,1,none⟩=some (.string s)∧W.cell? ⟨b,9,none⟩=some (.int .i64 (k:Int))∧Hid (Held w B b f s { x with at_:=k } W))
    (first|exact held_S (held_drew HK)|exact held_S (held_below (‹_∧_∧_∧Hid (Held _ _ _ _ _ _ _)›).2.2.2 ‹Hid (Below _ _ _)›)|exact held_S (held_drew (‹_∧_∧_∧Hid (Held _ _ _ _ _ _ _)›).2.2.2)|exact held_S (‹_∧_∧_∧Hid (Held _ _ _ _ _ _ _)›).2.2.2)
    (first|(go_at_call 73;refine (Tryz.utf8_DecodeRuneInString _ _ (held_utf (‹_∧_∧_∧Hid (Held _ _ _ _ _ _ _)›).2.2.2)).mono ?_;rw [HD.out];rintro e w4 ⟨rfl,hb⟩;have HB:=Lib.hid hb;clear hb))
   have HK4:=(‹_∧_∧_∧Hid (Held _ _ _ _ _ _ _)›).2.2.2
   have HL4:=Lib.hid HK4.out.lex
   have HG4:=Lib.hid HK4.out.grown
   clear HK HK4 c0 c1 c9 i1 i2
   have r1:(-2147483648:Int)≤(d.1:Int):=by omega
   have r2:(d.1:Int)≤2147483647:=by have:=HR.out;omega
   by_cases hsp:Lib.isSpaceZ d.1=true
   ·have hstep:=HS.out
    rw [if_pos hsp] at hstep
    have hd2:1≤d.2:=by
     rcases Nat.eq_zero_or_pos d.2 with h0|h0
     ·exfalso
      have:=HD.out
      have h5:1≤(Lib.decodeGo (s.extract k s.size)).2:=by
       unfold Lib.decodeGo
       have e:(s.extract k s.size).size=s.size-k:=by simp
       rw [if_neg (by omega)]
       exact Lib.decode_width_pos _ 0 (by omega)
      rw [this] at h5
      omega
     ·exact h0
    have hle:=spLen_le (rest s k)
    rw [rest_length] at hle
    have hsp1:lx.spaces (rest s k)=d.2+lx.spaces (rest s (k+d.2)):=by
     rw [spaces_step,if_neg (by omega),hstep,rest_drop]
    have HSP:=Lib.hid hsp1
    have hkd:k+d.2≤s.size:=by omega
    clear hstep hle hsp1
    go_wp2_with (go_at_call 74;refine (Tryz.unicode_IsSpace_any _ _ r1 r2 HL4.out.tabs.at.white).mono ?_;rw [hsp];rintro e w5 ⟨rfl,hb⟩;have HB5:=Lib.hid hb;clear hb)
    have HL5:=Lib.hid (HL4.out.below HB5.out)
    have HG5:=Lib.hid (grown_trans HG4.out (grown_below HB5.out _))
    go_wp2_with (go_at_call 75;refine (skipN_any d.2 HL5.out.at.pos (HL5.out.free 9) (by simp;omega) (by omega)).mono ?_;rintro e w6 ⟨rfl,rfl⟩)
    have HL6:=Lib.hid (HL5.out.set 9 (.int .i64 ((k+d.2:Nat):Int)) { x with at_:=k+d.2 } rfl hkd)
    go_round
    case rel=>exact ⟨k+d.2,HL6.out,grown_set HG5.out 9 _,(by have:=HSP.out;have:=HE.out;show _=_;omega),hkd⟩
    case measure =>
     have e1:=HL6.out.place
     have e2:=HL.out.place
     simp only at e1 e2
     show s.size-placeIn (w5.setCell ⟨b,9,none⟩ (.int .i64 ((k+d.2:Nat):Int))) b<_
     rw [e1,e2]
     omega
   ·have hsp':Lib.isSpaceZ d.1=false:=by simpa using hsp
    have hstep:=HS.out
    rw [if_neg hsp] at hstep
    have h0:lx.spaces (rest s k)=0:=by rw [spaces_step,if_pos hstep]
    have hx:=HE.out
    rw [h0] at hx
    have HX:=Lib.hid hx
    clear hx h0 hstep hsp
    go_wp2_with (go_at_call 74;refine (Tryz.unicode_IsSpace_any _ _ r1 r2 HL4.out.tabs.at.white).mono ?_;rw [hsp'];rintro e w5 ⟨rfl,hb⟩;have HB5:=Lib.hid hb;clear hb)
    refine bodyPost_ret (results_none rfl _ _ _) rfl ?_
    refine ⟨rfl, ?_,grown_trans HG4.out (grown_below HB5.out _)⟩
    rw [←HX.out]
    exact HL4.out.below HB5.out
  ·have hI:=Lib.hid (show inB s k=false by simpa [inB] using hin)
   have hI2:(!(inB s k))=true:=by rw [hI.out];rfl
   have h0:lx.spaces (rest s k)=0:=by rw [rest_nil s k hin,spaces_nil]
   have hx:=HE.out
   rw [h0] at hx
   have HX:=Lib.hid hx
   clear hx h0
   go_wp2_with (go_at_call 72;refine (eof_any HL.out.at (by omega) (by simp;omega)).mono ?_;simp only [hI2];rintro e w' ⟨rfl,n,rfl⟩)
   go_end0
   refine ⟨rfl, ?_,grown_drewN HG.out n⟩
   rw [←HX.out]
   exact HL.out.drewN n
end Go.Proofs.YtaamolahbkgofaaGreatDoor.lex
namespace Go.Proofs.YtaamolahbkgofaaGreatDoor.lex
open Go.RowKit mem lines
theorem below_drewN {B:Nat} {w W:World} (h:Below B w W) (n:Nat):Below B w (W.drewN n):=⟨h.os,h.tape,h.output,h.size,h.block⟩
theorem below_grow (w:World) (k:Nat) (os:Array Obj):Below w.heap.size w (Sort.grow (w.drewN k) os) :=
 ⟨rfl,rfl,rfl,by simp [Sort.grow,World.drewN],fun i hi=>by
  show (w.heap++os)[i]?=_
  rw [Array.getElem?_append_left hi]⟩
/-- A text as a value of its length. -/
def strLen (v:Value):Nat:=match v with|.string t=>t.size|_=>0
/-- A buffer of the call's own (block B, the first one of the call's) is being written: at most K bytes so far. -/
structure Writing (B0 B:Nat) (w1:World) (K:Nat) (W:World):Prop where
 tabs:Tabs B0 W
 buf:∃l:List UInt8,Lib.IsBuffer 94 5 B B (Lib.byteCells l) W∧l.length≤K
 below:Below B w1 W
theorem buffer_old {B b:Nat} {bs:List Value} {w w':World} (h:Lib.IsBuffer 94 5 B b bs w) (hb:Below w.heap.size w w'):Lib.IsBuffer 94 5 B b bs w':=by
 have hlt:=h.lt
 obtain ⟨hB,v,lr,hbk,hown,hne⟩:=h
 exact ⟨hB,v,lr,(hb.block b hlt).trans hbk,hown.kept (grown_below hb none) (by by_cases hv:v.ownBlock=none;exact .inl hv;exact .inr hv),hne⟩
theorem Writing.le {B0 B K:Nat} {w1 W:World} (h:Writing B0 B w1 K W):B<W.heap.size:=by
 obtain ⟨l,hl,_⟩:=h.buf
 exact hl.lt
theorem Writing.old {B0 B K:Nat} {w1 W W':World} (h:Writing B0 B w1 K W) (hb:Below W.heap.size W W'):Writing B0 B w1 K W':=by
 obtain ⟨l,hl,hK⟩:=h.buf
 exact ⟨h.tabs.grown (Nat.le_refl _) (grown_below hb _),⟨l,buffer_old hl hb,hK⟩,h.below.trans (hb.mono (Nat.le_of_lt h.le))⟩
theorem Writing.drewN {B0 B K:Nat} {w1 W:World} (h:Writing B0 B w1 K W) (n:Nat):Writing B0 B w1 K (W.drewN n):=⟨h.tabs.drewN n,h.buf,below_drewN h.below n⟩
theorem Writing.more {B0 B K K':Nat} {w1 W:World} (h:Writing B0 B w1 K W) (hK:K≤K'):Writing B0 B w1 K' W:=by
 obtain ⟨l,hl,hk⟩:=h.buf
 exact ⟨h.tabs,⟨l,hl,Nat.le_trans hk hK⟩,h.below⟩
/-- A text of so many bytes at most; the buffer stands. -/
def Short (n:Nat) (B0 B:Nat) (w1:World) (K:Nat) (e:Ending) (W:World):Prop:=∃t:ByteArray,e=.returned (.string t)∧t.size≤n∧Writing B0 B w1 K W
set_option maxHeartbeats 1000000 in
theorem zzPad_any {B0 B K:Nat} {w1 W:World} (z:Int) (h0:0≤z) (h1:z≤9000000) (h:Writing B0 B w1 K W) :
  Calls Tryz.prog 46 #[.int .i64 z] W (Short 30 B0 B w1 K):=by
 have HW:=Lib.hid h
 have HP:=Lib.hid h.tabs.at.pow
 clear h
 go_enter Tryz.func46,Tryz.ntmps46
 have H1:(-9223372036854775808:Int)≤z:=by omega
 have H2:z≤9223372036854775807:=by omega
 go_wp2_with (go_at_call 65;refine (Tryz.strconv_Itoa _ H1 H2 _ HP.out).mono ?_;rintro e w' ⟨rfl,k,os,rfl⟩)
 have HB:=Lib.hid (HW.out.old (below_grow W k os))
 have L:(Lib.itoa z).length≤21:=Lib.itoa_length_le _ H1 H2
 have L2:(⟨(Lib.itoa z).toArray⟩:ByteArray).size≤21:=by simpa [ByteArray.size] using L
 generalize Sort.grow (W.drewN k) os=w2 at HB ⊢
 generalize (⟨(Lib.itoa z).toArray⟩:ByteArray)=t at L2 ⊢
 clear L
 go_loop [3] (fun v=>∃t:ByteArray,v=.string t∧t.size≤21) (fun v=>3-strLen v)
 case atStart=>exact ⟨t,rfl,L2⟩
 case round =>
  obtain ⟨r,rfl,hr⟩:=hrel
  by_cases h3:r.size<3
  ·go_wp2
   have e:(⟨#[32]⟩++r:ByteArray).size=1+r.size:=by rw [ByteArray.size_append];rfl
   go_round
   case rel=>exact ⟨_,rfl,by omega⟩
   case measure =>
    show 3-(⟨#[32]⟩++r:ByteArray).size<3-r.size
    omega
  ·go_wp2
   go_ret
   exact ⟨r,rfl,by omega,HB.out⟩
theorem repeat_any {B0 B K:Nat} {w1 W:World} (x:UInt8) (z:Int) (h0:0≤z) (h1:z≤1000000) (h:Writing B0 B w1 K W) :
  Calls Tryz.prog 47 #[.string ⟨#[x]⟩,.int .i64 z] W (Short 1000000 B0 B w1 K):=by
 obtain ⟨c,rfl⟩:∃c:Nat,z=(c:Int):=⟨z.toNat,by omega⟩
 refine (Tryz.strings_Repeat ⟨#[x]⟩ c W (by omega) (by show 1*c≤_;omega)).mono fun e W' ⟨he,hb⟩=>⟨_,he, ?_,h.old hb⟩
 have e:(⟨(Lib.repeatL (⟨#[x]⟩:ByteArray).data.toList c).toArray⟩:ByteArray).size=(Lib.repeatL (⟨#[x]⟩:ByteArray).data.toList c).length:=by simp [ByteArray.size]
 rw [e,Lib.repeatL_length]
 simp
 omega
/-- The buffer has been written. -/
def Wrote (B0 B:Nat) (w1:World) (K:Nat) (e:Ending) (W:World):Prop:=∃z,e=.returned (.tuple #[.int .i64 z,.nilIface])∧Writing B0 B w1 K W
theorem write_any {B0 B K:Nat} {w1 W:World} (s:ByteArray) (j:Nat) (hj:s.size≤j) (hK:K+j≤140737488355328) (hB:B0≤B) (h:Writing B0 B w1 K W) :
  Calls Tryz.prog 45 #[.pointer (some ⟨B,0,none⟩),.string s] W (Wrote B0 B w1 (K+j)):=by
 obtain ⟨l,hl,hlK⟩:=h.buf
 refine (Tryz.Buffer_WriteString B B _ s W hl (Nat.le_of_lt h.le) (Lib.byteCells_one l) (by rw [Lib.byteCells_length];omega)).mono fun e W' ⟨he,hb,hbel⟩=>⟨_,he, ?_, ?_, ?_⟩
 ·obtain ⟨W0,rfl,k1,k2⟩:=h.tabs
  exact ⟨W0,rfl,k1,k2.trans (hbel.mono hB)⟩
 ·refine ⟨l++s.data.toList,by rw [Lib.byteCells_append];exact hb, ?_⟩
  have:=size_list s
  simp only [List.length_append]
  omega
 ·exact h.below.trans hbel
theorem size_mk (a:Array UInt8):(⟨a⟩:ByteArray).size=a.size:=rfl
theorem alloc_new_at (w:World) (k:Nat) (o:Obj):((w.drewN k).alloc o).heap[w.heap.size]?=some o:=by
 show (w.heap.push _)[w.heap.size]?=_
 simp
/-- What Position answers. -/
def PosAt (s:ByteArray) (f n m:Nat) (w:World) (e:Ending) (w':World):Prop :=
 ∃q p src,e=.returned (.pointer (some ⟨q,0,none⟩)) ∧
  w'.heap[q]?=some (.cells #[.string p,.int .i64 (n:Int),.int .i64 (m:Int),.int .i64 (feeds s.data.toList n:Nat),.int .i64 ((n-startOf s.data.toList n:Nat):Int),
   .int .i64 (feeds s.data.toList m:Nat),.int .i64 ((m-startOf s.data.toList m:Nat):Int),.string src] 72 (0,0))∧w.heap.size≤q∧w.grownBy w' (some f)
/-- Of two starts of lines one behind the other. -/
theorem line_ends (l:List UInt8) (k:Nat) (h:k+1<(starts l).length):(starts l)[k]+1≤(starts l)[k+1]∧(starts l)[k+1]≤l.length+1:=by
 have h0:k<(splitL l).length:=by
  have:=startsFrom_length (splitL l) 0
  unfold starts at h
  omega
 have:=startsFrom_next (splitL l) 0 k h0 (by unfold starts at h;omega) h
 have h2:=starts_last l (k+1) h
 unfold starts at *
 omega
theorem valid_any (n:Nat) (w:World):Calls Tryz.prog 44 #[.int .i64 (n:Int)] w fun e w'=>e=.returned (.bool false)∧w=w':=by
 go_enter Tryz.func44,Tryz.ntmps44
 go_wp2
 go_ret
 exact ⟨ret_bool (by simp),rfl⟩
/-- ResolvePos, its answers by names. -/
theorem resolve_named (s:ByteArray) (f n:Nat) (w:World) (l c:Nat) (hl:Hid (feeds s.data.toList n=l)) (hc:Hid (n-startOf s.data.toList n=c)) (hs:s.size≤1000000) (hn:n≤s.size) (h:FileOk w f s) :
  Calls Tryz.prog 43 #[.pointer (some ⟨f,0,none⟩),.int .i64 (n:Int)] w fun e w'=>e=.returned (.tuple #[.int .i64 (l:Int),.int .i64 (c:Int)])∧Hid (Lined w' f s)∧Hid (w.grownBy w' (some f)) :=
 (resolve_any s f n w hs hn h).mono fun e w' ⟨he,h1,h2⟩=>⟨by
  have:=lines.startOf_le s.data.toList n (by rw [size_list];exact hn)
  rw [he,hl.out,show (n:Int)-(startOf s.data.toList n:Nat)=(c:Int) by have:=hc.out;omega],h1,h2⟩
theorem lined_cells {w:World} {f g cap:Nat} {s:ByteArray} (h:LinedAt w f s g cap) (k:Nat) (hk:k+1<(starts s.data.toList).length) :
  ∃a b:Nat,w.cell? ⟨g,k,none⟩=some (.int .i64 (a:Int))∧w.cell? ⟨g,k+1,none⟩=some (.int .i64 (b:Int))∧a+1≤b∧b≤s.size+1:=by
 have:=line_ends s.data.toList k hk
 rw [size_list] at this
 exact ⟨_,_,h.cell k (by omega),h.cell (k+1) hk,this.1,this.2⟩
theorem _root_.Go.Proofs.YtaamolahbkgofaaGreatDoor.lines.LinedAt.text {w:World} {f g cap:Nat} {s:ByteArray} (h:LinedAt w f s g cap):w.cell? ⟨f,1,none⟩=some (.string s):=by
 obtain ⟨p,hf⟩:=h.1
 exact cells_of_heap hf 1
theorem _root_.Go.Proofs.YtaamolahbkgofaaGreatDoor.lines.LinedAt.row {w:World} {f g cap:Nat} {s:ByteArray} (h:LinedAt w f s g cap):w.cell? ⟨f,2,none⟩=some (.slice (some ⟨g,0,none⟩) (starts s.data.toList).length cap):=by
 obtain ⟨p,hf⟩:=h.1
 exact cells_of_heap hf 2
theorem _root_.Go.Proofs.YtaamolahbkgofaaGreatDoor.lines.LinedAt.path {w:World} {f g cap:Nat} {s:ByteArray} (h:LinedAt w f s g cap):∃p,w.cell? ⟨f,0,none⟩=some (.string p):=by
 obtain ⟨p,hf⟩:=h.1
 exact ⟨p,cells_of_heap hf 0⟩
theorem _root_.Go.Proofs.YtaamolahbkgofaaGreatDoor.lines.LinedAt.lt {w:World} {f g cap:Nat} {s:ByteArray} (h:LinedAt w f s g cap):f<w.heap.size:=by
 obtain ⟨p,hf⟩:=h.1
 exact lt_of_heap hf
theorem _root_.Go.Proofs.YtaamolahbkgofaaGreatDoor.lines.LinedAt.below {w w':World} {f g cap:Nat} {s:ByteArray} (h:LinedAt w f s g cap) (hb:Below w.heap.size w w'):LinedAt w' f s g cap:=by
 obtain ⟨⟨p,hf⟩,hg⟩:=h
 refine ⟨⟨p,(hb.block f (lt_of_heap hf)).trans hf⟩,fun j=>?_⟩
 rcases hg j with e|e
 ·by_cases hj:j<(starts s.data.toList).length
  ·refine .inl ((hb.cell ?_).trans e)
   have:w.cell? ⟨g,j,none⟩=some (intV (starts s.data.toList)[j]):=by rw [e];simp [hj]
   exact lt_of_cell this
  ·exact .inr (by omega)
 ·exact .inr e
set_option maxHeartbeats 1000000 in
set_option maxRecDepth 100000 in
theorem position_any {B:Nat} (s:ByteArray) (f n m:Nat) (w:World) (hT:Tabs B w) (hB:B≤f) (hF:FileOk w f s) (hs:s.size≤100000) (hnm:n≤m) (hm:m≤s.size) :
  Calls Tryz.prog 32 #[.pointer (some ⟨f,0,none⟩),.int .i64 (n:Int),.int .i64 (m:Int)] w (PosAt s f n m w):=by
 have HF:=Lib.hid hF
 have HT:=Lib.hid hT
 clear hF hT
 obtain ⟨l1,h1⟩:∃l,Hid (feeds s.data.toList n=l):=⟨_,rfl⟩
 obtain ⟨c1,h2⟩:∃l,Hid (n-startOf s.data.toList n=l):=⟨_,rfl⟩
 obtain ⟨l2,h3⟩:∃l,Hid (feeds s.data.toList m=l):=⟨_,rfl⟩
 obtain ⟨c2,h4⟩:∃l,Hid (m-startOf s.data.toList m=l):=⟨_,rfl⟩
 have HG:=Lib.hid (grown_refl w (some f))
 obtain ⟨N,hN⟩:∃N,Hid ((starts s.data.toList).length=N):=⟨_,rfl⟩
 have b0:N≤1000002:=by
  have e2:=starts_length s.data.toList
  have e3:=List.count_le_length (a:=(10:UInt8)) (l:=s.data.toList)
  have e4:=size_list s
  have:=hN.out
  omega
 have b1:l1+1<N:=by have:=feeds_lt s.data.toList n;rw [h1.out,hN.out] at this;exact this
 have b2:l2+1<N:=by have:=feeds_lt s.data.toList m;rw [h3.out,hN.out] at this;exact this
 have b3:c1≤s.size:=by have:=h2.out;omega
 have b4:c2≤s.size:=by have:=h4.out;omega
 go_enter Tryz.func32,Tryz.ntmps32
 by_cases hl:l1=l2
 ·subst hl
  go_wp2_with (first|(go_at_call 43;refine (resolve_named s f _ _ _ _ (by assumption) (by assumption) (by omega) (by omega) HF.out).mono ?_;rintro e w1 ⟨rfl,HL,HG1⟩;have HF:=Lib.hid (show FileOk w1 f s from .inr HL.out);have HG:=Lib.hid (grown_trans HG.out HG1.out);clear HG1)|(go_at_call 44;refine (valid_any _ _).mono ?_;rintro e w1 ⟨rfl,rfl⟩))
  obtain ⟨g,cap,hL⟩:=HL.out
  have HBf:=Lib.hid (Lib.fresh_isBuffer 94 5 w1)
  have HZ:=Lib.hid ((Below.refl w1.heap.size w1).alloc (Nat.le_refl _) (Obj.cells #[Value.slice none 0 0,Value.int IntKind.i64 0,Value.int IntKind.i8 0] 94))
  have HL2:=Lib.hid (hL.below ((Below.refl _ _).alloc (Nat.le_refl _) (Obj.cells #[Value.slice none 0 0,Value.int IntKind.i64 0,Value.int IntKind.i8 0] 94)))
  have HG2:=Lib.hid (grown_alloc HG.out (Obj.cells #[Value.slice none 0 0,Value.int IntKind.i64 0,Value.int IntKind.i8 0] 94))
  have hsz:w1.heap.size≤(w1.alloc (Obj.cells #[Value.slice none 0 0,Value.int IntKind.i64 0,Value.int IntKind.i8 0] 94)).heap.size:=by simp
  generalize w1.alloc (Obj.cells #[Value.slice none 0 0,Value.int IntKind.i64 0,Value.int IntKind.i8 0] 94)=w2 at HBf HL2 HG2 HZ hsz ⊢
  obtain ⟨a,b,ca,cb,hab,hbs⟩:=lined_cells HL2.out l1 (by have:=hN.out;omega)
  have ct:=HL2.out.text
  have cr:=HL2.out.row
  rw [hN.out] at cr
  have i1:(l1:Int)<(N:Int):=by omega
  have i2:IntKind.i64.wrap ((l1:Int)+1)=(l1:Int)+1:=IntWalk.i64_in _ (by omega)
  have i3:((l1:Int)+1).toNat=l1+1:=by omega
  have i4:(l1:Int)+1<(N:Int):=by omega
  have i5:0≤(l1:Int)+1:=by omega
  have i6:IntKind.i64.wrap ((b:Int)-1)=(b:Int)-1:=IntWalk.i64_in _ (by omega)
  have i7:((b:Int)-1).toNat=b-1:=by omega
  have i8:(a:Int)≤(b:Int)-1:=by omega
  have i9:(b:Int)-1≤(s.size:Int):=by omega
  have i10:0≤(b:Int)-1:=by omega
  go_quiet (fail)
  have HW:=Lib.hid (show Writing B w1.heap.size w1 0 (w2.drewN nq) from
   ⟨(HT.out.grown hB HG2.out).drewN _,⟨[],⟨HBf.out.1,HBf.out.2⟩,Nat.le_refl _⟩,below_drewN HZ.out nq⟩)
  have hBl:=Lib.hid (Nat.le_trans HT.out.le HG.out.size)
  clear i1 i2 i3 i4 i5 i6 i7 i8 i9 i10 ca cb ct cr HBf HL2 HG2
  generalize w2.drewN nq=w3 at HW ⊢
  go_wp2_with (first
   | (go_at_call 46;refine (zzPad_any _ (by omega) (by omega) HW.out).mono ?_;rintro e w4 ⟨t1,rfl,ht1,hw⟩;have HW:=Lib.hid hw;clear hw)
   | (go_at_call 45;refine (write_any _ 3000000 (by simp [size_mk,ByteArray.size_append,ByteArray.size_extract];omega) (by omega) hBl.out HW.out).mono ?_;rintro e w4 ⟨z,rfl,hw⟩;have HW:=Lib.hid hw;clear hw)
   | (go_at_call 47;refine (repeat_any _ _ (by omega) (by omega) HW.out).mono ?_;rintro e w4 ⟨t2,rfl,ht2,hw⟩;have HW:=Lib.hid hw;clear hw))
  obtain ⟨l,hl,_⟩:=HW.out.buf
  have hl4:Lib.IsBuffer 94 5 w1.heap.size w1.heap.size (Lib.byteCells l) w4.drew:=hl
  obtain ⟨p,hp⟩:=hL.path
  have cp1:w4.drew.cell? ⟨f,0,none⟩=some (.string p):=(HW.out.below.cell hL.lt).trans hp
  have cp3:∀k,(w4.drewN k).cell? ⟨f,0,none⟩=some (.string p):=fun k=>(HW.out.below.cell hL.lt).trans hp
  have cp2:∀k,(w4.drew.drewN k).cell? ⟨f,0,none⟩=some (.string p):=fun k=>(HW.out.below.cell hL.lt).trans hp
  have HL4:=Lib.hid hl4
  clear hl hp hl4
  go_region_with (go_at_call 48;refine (Tryz.Buffer_String w1.heap.size w1.heap.size l _ ?_).mono ?_;exact HL4.out;rintro e w5 ⟨rfl,n5,rfl⟩)
  all_goals go_wp2
  all_goals go_ret
  all_goals refine ⟨w4.heap.size,p,⟨l.toArray⟩,rfl, ?_,Nat.le_trans HG.out.size HW.out.below.size, ?_⟩
  all_goals first|exact grown_alloc (grown_drewN (grown_trans HG.out (grown_below HW.out.below _)) _) _|(rw [h1.out,h2.out,h3.out,h4.out];exact alloc_new_at _ _ _)
 ·have hlb:((l1:Int)==(l2:Int))=false:=by simp;omega
  have hll:l1≤l2:=by
   have:=feeds_mono s.data.toList hnm
   rw [h1.out,h3.out] at this
   exact this
  have hld:decide (l1<l2)=true:=by simp;omega
  have hld2:decide ((l1:Int)<(l2:Int))=true:=by simp;omega
  go_wp2_with (first|(go_at_call 43;refine (resolve_named s f _ _ _ _ (by assumption) (by assumption) (by omega) (by omega) HF.out).mono ?_;rintro e w1 ⟨rfl,HL,HG1⟩;have HF:=Lib.hid (show FileOk w1 f s from .inr HL.out);have HG:=Lib.hid (grown_trans HG.out HG1.out);clear HG1)|(go_at_call 44;refine (valid_any _ _).mono ?_;rintro e w1 ⟨rfl,rfl⟩))
  obtain ⟨g,cap,hL⟩:=HL.out
  have HBf:=Lib.hid (Lib.fresh_isBuffer 94 5 w1)
  have HZ:=Lib.hid ((Below.refl w1.heap.size w1).alloc (Nat.le_refl _) (Obj.cells #[Value.slice none 0 0,Value.int IntKind.i64 0,Value.int IntKind.i8 0] 94))
  have HL2:=Lib.hid (hL.below ((Below.refl _ _).alloc (Nat.le_refl _) (Obj.cells #[Value.slice none 0 0,Value.int IntKind.i64 0,Value.int IntKind.i8 0] 94)))
  have HG2:=Lib.hid (grown_alloc HG.out (Obj.cells #[Value.slice none 0 0,Value.int IntKind.i64 0,Value.int IntKind.i8 0] 94))
  have hsz:w1.heap.size≤(w1.alloc (Obj.cells #[Value.slice none 0 0,Value.int IntKind.i64 0,Value.int IntKind.i8 0] 94)).heap.size:=by simp
  generalize w1.alloc (Obj.cells #[Value.slice none 0 0,Value.int IntKind.i64 0,Value.int IntKind.i8 0] 94)=w2 at HBf HL2 HG2 HZ hsz ⊢
  have HW:=Lib.hid (show Writing B w1.heap.size w1 0 w2 from ⟨HT.out.grown hB HG2.out,⟨[],⟨HBf.out.1,HBf.out.2⟩,Nat.le_refl _⟩,HZ.out⟩)
  have hBl:=Lib.hid (Nat.le_trans HT.out.le HG.out.size)
  clear HBf HL2 HG2 HZ hsz
  go_loopw [14] (fun v W=>∃k:Nat,v=.int .i64 (k:Int)∧l1≤k∧k≤l2+1∧Hid (Writing B w1.heap.size w1 ((k-l1)*9000000) W)) (fun v _=>l2+1-(intOf v).toNat)
  case atStart=>exact ⟨l1,rfl,Nat.le_refl _,by omega,by rw [Nat.sub_self,Nat.zero_mul];exact HW.out⟩
  case round =>
   obtain ⟨k,rfl,hk1,hk2,HK⟩:=hrel
   by_cases hk:k≤l2
   ·by_cases hk0:0<k
    ·go_wp2_with (go_at_call 45;refine (write_any _ 1 (Nat.le_refl _) (by omega) hBl.out HK.out).mono ?_;rintro e w4 ⟨z,rfl,hw⟩;have HK:=Lib.hid hw;clear hw)
     have HB2:=Lib.hid (hL.below HK.out.below)
     obtain ⟨a,b,ca,cb,hab,hbs⟩:=lined_cells HB2.out k (by have:=hN.out;omega)
     have ct:=HB2.out.text
     have cr:=HB2.out.row
     rw [hN.out] at cr
     have i1:(k:Int)<(N:Int):=by omega
     have i2:IntKind.i64.wrap ((k:Int)+1)=(k:Int)+1:=IntWalk.i64_in _ (by omega)
     have i3:((k:Int)+1).toNat=k+1:=by omega
     have i4:(k:Int)+1<(N:Int):=by omega
     have i5:0≤(k:Int)+1:=by omega
     have i6:IntKind.i64.wrap ((b:Int)-1)=(b:Int)-1:=IntWalk.i64_in _ (by omega)
     have i7:((b:Int)-1).toNat=b-1:=by omega
     have i8:(a:Int)≤(b:Int)-1:=by omega
     have i9:(b:Int)-1≤(s.size:Int):=by omega
     have i10:0≤(b:Int)-1:=by omega
     go_quiet (fail)
     clear i1 i2 i3 i4 i5 i6 i7 i8 i9 i10 ca cb ct cr
     have HW:=Lib.hid (HK.out.drewN nq)
     generalize w4.drewN nq=w3 at HW ⊢
     go_wp2_with (first
      | (go_at_call 46;refine (zzPad_any _ (by omega) (by omega) HW.out).mono ?_;rintro e w4 ⟨t1,rfl,ht1,hw⟩;have HW:=Lib.hid hw;clear hw)
      | (go_at_call 45;refine (write_any _ 3000000 (by simp [size_mk,ByteArray.size_append,ByteArray.size_extract];omega) (by omega) hBl.out HW.out).mono ?_;rintro e w4 ⟨z,rfl,hw⟩;have HW:=Lib.hid hw;clear hw))
     go_roundw
     case rel=>exact ⟨k+1,by go_num,by omega,by omega,HW.out.more (by omega)⟩
     case measure=>simp [intOf];omega
    ·go_wp2
     have HB2:=Lib.hid (hL.below HK.out.below)
     obtain ⟨a,b,ca,cb,hab,hbs⟩:=lined_cells HB2.out k (by have:=hN.out;omega)
     have ct:=HB2.out.text
     have cr:=HB2.out.row
     rw [hN.out] at cr
     have i1:(k:Int)<(N:Int):=by omega
     have i2:IntKind.i64.wrap ((k:Int)+1)=(k:Int)+1:=IntWalk.i64_in _ (by omega)
     have i3:((k:Int)+1).toNat=k+1:=by omega
     have i4:(k:Int)+1<(N:Int):=by omega
     have i5:0≤(k:Int)+1:=by omega
     have i6:IntKind.i64.wrap ((b:Int)-1)=(b:Int)-1:=IntWalk.i64_in _ (by omega)
     have i7:((b:Int)-1).toNat=b-1:=by omega
     have i8:(a:Int)≤(b:Int)-1:=by omega
     have i9:(b:Int)-1≤(s.size:Int):=by omega
     have i10:0≤(b:Int)-1:=by omega
     go_quiet (fail)
     clear i1 i2 i3 i4 i5 i6 i7 i8 i9 i10 ca cb ct cr
     have HW:=Lib.hid (HK.out.drewN nq)
     generalize wr.drewN nq=w3 at HW ⊢
     go_wp2_with (first
      | (go_at_call 46;refine (zzPad_any _ (by omega) (by omega) HW.out).mono ?_;rintro e w4 ⟨t1,rfl,ht1,hw⟩;have HW:=Lib.hid hw;clear hw)
      | (go_at_call 45;refine (write_any _ 3000000 (by simp [size_mk,ByteArray.size_append,ByteArray.size_extract];omega) (by omega) hBl.out HW.out).mono ?_;rintro e w4 ⟨z,rfl,hw⟩;have HW:=Lib.hid hw;clear hw))
     go_roundw
     case rel=>exact ⟨k+1,by go_num,by omega,by omega,HW.out.more (by omega)⟩
     case measure=>simp [intOf];omega
   ·go_wp2
    obtain ⟨l,hl,_⟩:=HK.out.buf
    have hl4:Lib.IsBuffer 94 5 w1.heap.size w1.heap.size (Lib.byteCells l) wr.drew:=hl
    obtain ⟨p,hp⟩:=hL.path
    have cp1:wr.drew.cell? ⟨f,0,none⟩=some (.string p):=(HK.out.below.cell hL.lt).trans hp
    have cp3:∀k,(wr.drewN k).cell? ⟨f,0,none⟩=some (.string p):=fun k=>(HK.out.below.cell hL.lt).trans hp
    have cp2:∀k,(wr.drew.drewN k).cell? ⟨f,0,none⟩=some (.string p):=fun k=>(HK.out.below.cell hL.lt).trans hp
    have HL4:=Lib.hid hl4
    clear hl hp hl4
    go_region_with (go_at_call 48;refine (Tryz.Buffer_String w1.heap.size w1.heap.size l _ ?_).mono ?_;exact HL4.out;rintro e w5 ⟨rfl,n5,rfl⟩)
    all_goals go_wp2
    all_goals go_ret
    all_goals refine ⟨wr.heap.size,p,⟨l.toArray⟩,rfl, ?_,Nat.le_trans HG.out.size HK.out.below.size, ?_⟩
    all_goals first|exact grown_alloc (grown_drewN (grown_trans HG.out (grown_below HK.out.below _)) _) _|(rw [h1.out,h2.out,h3.out,h4.out];exact alloc_new_at _ _ _)
end Go.Proofs.YtaamolahbkgofaaGreatDoor.lex
namespace Go.Proofs.YtaamolahbkgofaaGreatDoor.lex
open Go.RowKit mem lines
/-- An error has been made, block m. -/
def MadeErr (b f:Nat) (w:World) (e:Ending) (w':World):Prop :=
 ∃m,e=.returned (.pointer (some ⟨m,0,none⟩))∧w.heap.size≤m∧ErrAt m w'∧Grown2 b f w w'
theorem errAt_mk (w:World) (msg:ByteArray) (q:Nat) (cs:Array Value) (hq:w.heap[q]?=some (.cells cs 72 (0,0))) (pv:Int) (hc:cs[1]?=some (.int .i64 pv)) :
  ErrAt w.heap.size (w.alloc (.cells #[.string msg,.pointer (some ⟨q,0,none⟩)] 86)):=by
 refine ⟨msg,q,pv,by show (w.heap.push _)[w.heap.size]?=_;simp, ?_⟩
 have:(w.alloc (.cells #[.string msg,.pointer (some ⟨q,0,none⟩)] 86)).heap[q]?=some (.cells cs 72 (0,0)):=by
  have:=lt_of_heap hq
  show (w.heap.push _)[q]?=_
  rw [Array.getElem?_push_lt this,←hq]
  simp [this]
 rw [cells_of_heap this 1,hc]
set_option maxHeartbeats 1000000 in
theorem errorfAt_any {w:World} {B b f:Nat} {s:ByteArray} {x:St} (h:LexS w B b f s x) (n m:Nat) (msg:ByteArray) (hnm:n≤m) (hm:m≤s.size) :
  Calls Tryz.prog 114 #[.pointer (some ⟨b,0,none⟩),.int .i64 (n:Int),.int .i64 (m:Int),.string msg] w (MadeErr b f w):=by
 have HH:=Lib.hid h
 have c0:=h.at.file
 have sz:=h.sz
 clear h
 go_enter Tryz.func114,Tryz.ntmps114
 go_wp2_with (go_at_call 32;refine (position_any s f n m _ HH.out.tabs HH.out.hf (.inl HH.out.file) (by omega) hnm hm).mono ?_;rintro e w1 ⟨q,p,src,rfl,hq,hle,hg⟩;have HQ:=Lib.hid hq;have HG:=Lib.hid hg;have HLE:=Lib.hid hle;clear hq hg hle)
 go_ret
 refine ⟨w1.heap.size,rfl,HG.out.size,errAt_mk w1 msg q _ HQ.out (n:Int) rfl,(Grown2.ofF HG.out).trans (Grown2.of (World.grownBy_alloc w1 _ (some b)))⟩
set_option maxHeartbeats 1000000 in
set_option maxRecDepth 100000 in
theorem errorf_any {w:World} {B b f:Nat} {s:ByteArray} {x:St} (h:LexS w B b f s x) (msg:ByteArray) :
  Calls Tryz.prog 92 #[.pointer (some ⟨b,0,none⟩),.string msg] w (MadeErr b f w):=by
 have HH:=Lib.hid (h.drewN 1)
 obtain ⟨c0,_,c9⟩:=h.at
 have sz:=h.sz
 have le:=h.le
 clear h
 go_enter Tryz.func92,Tryz.ntmps92
 go_wp2_with fail
 have HG0:=Lib.hid (Grown2.of (f:=f) (grown_drew (grown_refl w (some b))))
 have HS:=Lib.hid (show w.heap.size≤w.drew.heap.size from Nat.le_refl _)
 have HH:=Lib.hid (show LexS w.drew B b f s x from HH.out)
 have d0:w.drew.cell? ⟨b,0,none⟩=some (.pointer (some ⟨f,0,none⟩)):=c0
 have d9:w.drew.cell? ⟨b,9,none⟩=some (.int .i64 (x.at_:Int)):=c9
 go_region_with (go_at_call 32;refine (position_any s f x.at_ x.at_ w.drew HH.out.tabs HH.out.hf (.inl HH.out.file) (by omega) (Nat.le_refl _) le).mono ?_;rintro e w1 ⟨q,p,src,rfl,hq,hle,hg⟩;have HQ:=Lib.hid hq;have HG:=Lib.hid hg;have HLE:=Lib.hid hle;clear hq hg hle)
 all_goals go_wp2
 all_goals go_ret
 all_goals exact ⟨w1.heap.size,rfl,Nat.le_trans HS.out HG.out.size,errAt_mk w1 msg _ _ HQ.out (x.at_:Int) rfl,HG0.out.trans ((Grown2.ofF HG.out).trans (Grown2.of (World.grownBy_alloc w1 _ (some b))))⟩
theorem panicfAt_any {w:World} {B b f:Nat} {s:ByteArray} {x:St} (h:LexS w B b f s x) (n m:Nat) (msg:ByteArray) (hnm:n≤m) (hm:m≤s.size) :
  Calls Tryz.prog 108 #[.pointer (some ⟨b,0,none⟩),.int .i64 (n:Int),.int .i64 (m:Int),.string msg] w (Faults b f w):=by
 have HH:=Lib.hid h
 clear h
 go_enter Tryz.func108,Tryz.ntmps108
 go_wp2_with (go_at_call 114;refine (errorfAt_any HH.out n m msg hnm hm).mono ?_;rintro e w1 ⟨k,rfl,hk⟩;have HK:=Lib.hid hk;clear hk)
 exact ⟨rfl,k,rfl,HK.out⟩
theorem panicf_any {w:World} {B b f:Nat} {s:ByteArray} {x:St} (h:LexS w B b f s x) (msg:ByteArray) :
  Calls Tryz.prog 110 #[.pointer (some ⟨b,0,none⟩),.string msg] w (Faults b f w):=by
 have HH:=Lib.hid h
 clear h
 go_enter Tryz.func110,Tryz.ntmps110
 go_wp2_with (go_at_call 92;refine (errorf_any HH.out msg).mono ?_;rintro e w1 ⟨k,rfl,hk⟩;have HK:=Lib.hid hk;clear hk)
 exact ⟨rfl,k,rfl,HK.out⟩
end Go.Proofs.YtaamolahbkgofaaGreatDoor.lex
namespace Go.Proofs.YtaamolahbkgofaaGreatDoor.lex
open Go.RowKit mem lines
/-- slice, its numbers and its answer by names. -/
theorem slice_named {w:World} {b f p:Nat} {s:ByteArray} (a e:Nat) (za ze:Int) (v:ByteArray) (h:At w b f s p) (hs:s.size≤1000000) (hp:p≤1000000) (ha:p+a≤s.size) (hae:a≤e) (he:e≤1000000)
  (h1:za=a) (h2:ze=e) (hv:Hid (s.extract (p+a) (min (p+e) s.size)=v)) :
  Calls Tryz.prog 91 #[.pointer (some ⟨b,0,none⟩),.int .i64 za,.int .i64 ze] w fun e' w'=>e'=.returned (.string v)∧∃n,w'=w.drewN n:=by
 subst h1 h2
 have:=hv.out
 subst this
 exact slice_any a e h hs hp ha hae he
theorem skipN_named {w:World} {b p:Nat} (n:Nat) (z:Int) (h:w.cell? ⟨b,9,none⟩=some (.int .i64 (p:Int))) (h0:w.frozen? ⟨b,9,none⟩=false) (hp:p≤1000000) (hn:n≤1000000) (hz:z=n) :
  Calls Tryz.prog 75 #[.pointer (some ⟨b,0,none⟩),.int .i64 z] w fun e w'=>e=.returned (.tuple #[])∧w.setCell ⟨b,9,none⟩ (.int .i64 ((p+n:Nat):Int))=w':=by
 subst hz
 exact skipN_any n h h0 hp hn
theorem extract_one (s:ByteArray) (k:Nat) (h:k<s.size):s.extract (k+0) (min (k+1) s.size)=⟨#[s[k]]⟩:=by
 have h':k<s.data.size:=h
 apply ByteArray.ext
 rw [Nat.min_eq_left (by omega)]
 simp only [ByteArray.data_extract,Nat.add_zero]
 apply Array.ext
 ·simp;omega
 ·intro i h1 h2
  have:i=0:=by simp at h2;omega
  subst this
  simp
  rfl
/-- The bytes that slice reads. -/
theorem slice_list (s:ByteArray) (k n:Nat) (hk:k≤s.size):(s.extract (k+0) (min (k+n) s.size)).toList=(rest s k).take n:=by
 rw [Lib.toList_data,Lib.extract_data,Nat.add_zero]
 by_cases h:k+n≤s.size
 ·rw [Nat.min_eq_left h,Nat.add_sub_cancel_left]
 ·rw [Nat.min_eq_right (by omega)]
  have e:(rest s k).length=s.size-k:=rest_length s k
  show (rest s k).take (s.size-k)=_
  rw [List.take_of_length_le (by omega),List.take_of_length_le (by omega)]
theorem lineEnd_cons (c:UInt8) (r:lx.Bs):lx.lineEnd (c::r)=if c.toNat=10 then 1 else 1+lx.lineEnd r:=rfl
theorem lineEnd_le:∀t:lx.Bs,lx.lineEnd t≤t.length:=by
 intro t
 induction t with
 | nil=>exact Nat.le_refl _
 | cons c r ih =>
  rw [lineEnd_cons]
  split <;> simp <;> omega
set_option maxHeartbeats 1000000 in
set_option maxRecDepth 100000 in
theorem skipLine_any {w:World} {B b f:Nat} {s:ByteArray} {x:St} (np:Bool) (h:LexS w B b f s x) :
  Calls Tryz.prog 77 #[.pointer (some ⟨b,0,none⟩),.string ⟨#[10]⟩,.bool false,.bool np] w (Says (.bool false) B b f s { x with at_:=x.at_+lx.lineEnd (rest s x.at_) } w):=by
 have HH:=Lib.hid h
 have SZ:=h.sz
 have LE:=h.le
 have c9:=h.at.pos
 clear h
 go_enter Tryz.func77,Tryz.ntmps77
 go_wp2_with fail
 go_loopw [] (fun wr=>∃k:Nat,Hid (LexS wr B b f s { x with at_:=k })∧Hid (w.grownBy wr (some b))∧Hid (k+lx.lineEnd (rest s k)=x.at_+lx.lineEnd (rest s x.at_))∧k≤s.size) (fun wr=>s.size-placeIn wr b)
 case atStart=>exact ⟨x.at_,HH.out,grown_refl _ _,rfl,LE⟩
 case round =>
  obtain ⟨k,HL,HG,HE,hk⟩:=hrel
  by_cases hin:k<s.size
  ·have hI2:(!(inB s k))=false:=by simp [inB,hin]
   by_cases hc:s[k].toNat=10
   ·have e10:s[k]=10:=by
     have:s[k]=UInt8.ofNat (s[k].toNat):=by simp
     rw [this,hc];rfl
    have hv:=Lib.hid (extract_one s k hin)
    rw [e10] at hv
    have hstep:x.at_+lx.lineEnd (rest s x.at_)=k+1:=by
     rw [←HE.out,rest_cons s k hin,lineEnd_cons,if_pos hc]
    have HX:=Lib.hid hstep
    clear hstep e10 hc
    go_wp2_with (first
     | (go_at_call 72;refine (eof_any HL.out.at (by omega) (by simp;omega)).mono ?_;simp only [hI2];rintro e w' ⟨rfl,n,rfl⟩)
     | (go_at_call 91;refine (slice_named 0 1 _ _ ⟨#[10]⟩ (HL.out.drewN _).at (by omega) (by simp;omega) (by simp;omega) (by omega) (by omega) rfl (by rfl) hv).mono ?_;rintro e w' ⟨rfl,n2,rfl⟩)
     | (go_at_call 75;refine (skipN_named 1 _ (HL.out.drewN _).at.pos ((HL.out.drewN _).free 9) (by simp;omega) (by omega) (by rfl)).mono ?_;rintro e w6 ⟨rfl,rfl⟩))
    go_ret
    refine ⟨rfl, ?_,grown_set (grown_drewN HG.out _) 9 _⟩
    rw [HX.out]
    exact (HL.out.drewN _).set 9 _ _ rfl (by simp;omega)
   ·obtain ⟨v,hv⟩:∃v,Hid (s.extract (k+0) (min (k+1) s.size)=v):=⟨_,rfl⟩
    have hcv:(v.toList==[10])=false:=by
     rw [←hv.out,slice_list s k 1 hk,rest_cons s k hin]
     simp only [List.take_succ_cons,List.take_zero,beq_eq_false_iff_ne,ne_eq,List.cons.injEq,and_true]
     intro h
     rw [h] at hc
     exact hc rfl
    have hstep:(k+1)+lx.lineEnd (rest s (k+1))=x.at_+lx.lineEnd (rest s x.at_):=by
     rw [←HE.out,rest_cons s k hin,lineEnd_cons,if_neg hc];omega
    have HX:=Lib.hid hstep
    have hb:bt s k=(s[k].toNat:Int):=bt_in hin
    clear hstep hc
    go_wp2_with (first
     | (go_at_call 72;refine (eof_any HL.out.at (by omega) (by simp;omega)).mono ?_;simp only [hI2];rintro e w' ⟨rfl,n,rfl⟩)
     | (go_at_call 91;refine (slice_named 0 1 _ _ v (HL.out.drewN _).at (by omega) (by simp;omega) (by simp;omega) (by omega) (by omega) rfl (by rfl) hv).mono ?_;rintro e w' ⟨rfl,n2,rfl⟩)
     | (go_at_call 81;refine (skip_any (HL.out.drewN _).at ((HL.out.drewN _).free 9) (by omega) hin).mono ?_;rintro e w6 ⟨rfl,n3,rfl⟩))
    have HL6:=Lib.hid ((HL.out.drewN (n+n2+n3)).set 9 (.int .i64 ((k+1:Nat):Int)) { x with at_:=k+1 } rfl (by simp;omega))
    go_round
    case rel=>exact ⟨k+1,HL6.out,grown_set (grown_drewN HG.out _) 9 _,HX.out,by omega⟩
    case measure =>
     have e1:=HL6.out.place
     have e2:=HL.out.place
     simp only at e1 e2
     show s.size-placeIn ((wr.drewN (n+n2+n3)).setCell ⟨b,9,none⟩ (.int .i64 ((k+1:Nat):Int))) b<_
     rw [e1,e2]
     omega
  ·have hI2:(!(inB s k))=true:=by simp [inB,hin]
   have h0:lx.lineEnd (rest s k)=0:=by rw [rest_nil s k hin];rfl
   have hx:=HE.out
   rw [h0] at hx
   have HX:=Lib.hid hx
   clear hx h0
   go_wp2_with (go_at_call 72;refine (eof_any HL.out.at (by omega) (by simp;omega)).mono ?_;simp only [hI2];rintro e w' ⟨rfl,n,rfl⟩)
   go_ret
   refine ⟨rfl, ?_,grown_drewN HG.out n⟩
   rw [←HX.out]
   exact HL.out.drewN n
theorem block_hit {t:lx.Bs} (h:t.take 2=[42,47]):lx.blockEnd t=some 2∧2≤t.length:=by
 match t,h with
 | [],h=>simp at h
 | [c],h=>simp at h
 | c::d::r,h =>
  simp only [List.take_succ_cons,List.take_zero,List.cons.injEq,and_true] at h
  obtain ⟨rfl,rfl⟩:=h
  exact ⟨rfl,by simp⟩
theorem block_miss {c:UInt8} {r:lx.Bs} (h:¬(c::r).take 2=[42,47]):lx.blockEnd (c::r)=(lx.blockEnd r).map (·+1):=by
 show (if c.toNat=42∧lx.nb r 0=47 then some 2 else (lx.blockEnd r).map (·+1))=_
 rw [if_neg]
 rintro ⟨h1,h2⟩
 apply h
 match r,h2 with
 | [],h2=>exact absurd h2 (by simp [lx.nb])
 | d::r',h2 =>
  have h2':d.toNat=47:=h2
  have e1:c=42:=UInt8.toNat_inj.1 h1
  have e2:d=47:=UInt8.toNat_inj.1 h2'
  rw [e1,e2]
  rfl
/-- What passing over a block comment comes to. -/
def BlockPost (np:Bool) (B b f:Nat) (s:ByteArray) (x:St) (o:Option Nat) (w:World) (e:Ending) (w':World):Prop :=
 match o with
 | some m=>Says (.bool false) B b f s { x with at_:=x.at_+m } w e w'
 | none=>if np=true then Says (.bool true) B b f s { x with at_:=s.size } w e w' else Faults b f w e w'
set_option maxHeartbeats 1000000 in
set_option maxRecDepth 100000 in
theorem skipBlock_any {w:World} {B b f:Nat} {s:ByteArray} {x:St} (np:Bool) (h:LexS w B b f s x) :
  Calls Tryz.prog 77 #[.pointer (some ⟨b,0,none⟩),.string ⟨#[42,47]⟩,.bool true,.bool np] w (BlockPost np B b f s x (lx.blockEnd (rest s x.at_)) w):=by
 have HH:=Lib.hid h
 have SZ:=h.sz
 have LE:=h.le
 have c9:=h.at.pos
 clear h
 obtain ⟨o,ho⟩:∃o,Hid (lx.blockEnd (rest s x.at_)=o):=⟨_,rfl⟩
 rw [ho.out]
 go_enter Tryz.func77,Tryz.ntmps77
 go_wp2_with fail
 go_loopw [] (fun wr=>∃k:Nat,Hid (LexS wr B b f s { x with at_:=k })∧Hid (w.grownBy wr (some b))∧Hid ((lx.blockEnd (rest s k)).map (·+(k-x.at_))=o)∧k≤s.size∧x.at_≤k) (fun wr=>s.size-placeIn wr b)
 case atStart=>exact ⟨x.at_,HH.out,grown_refl _ _,by rw [Nat.sub_self];show (lx.blockEnd (rest s x.at_)).map (·+0)=o;rw [ho.out];cases o <;> rfl,LE,Nat.le_refl _⟩
 case round =>
  obtain ⟨k,HL,HG,HE,hk,hk2⟩:=hrel
  by_cases hin:k<s.size
  ·have hI2:(!(inB s k))=false:=by simp [inB,hin]
   obtain ⟨v,hv⟩:∃v,Hid (s.extract (k+0) (min (k+2) s.size)=v):=⟨_,rfl⟩
   have hvl:=Lib.hid (slice_list s k 2 hk)
   rw [hv.out] at hvl
   by_cases hc:(rest s k).take 2=[42,47]
   ·have hcv:(v.toList==[42,47])=true:=by rw [hvl.out,hc];rfl
    have hb:=block_hit hc
    have HX:=Lib.hid (show o=some (2+(k-x.at_)) by rw [←HE.out,hb.1];rfl)
    have hlen:k+2≤s.size:=by have:=hb.2;rw [rest_length] at this;omega
    clear hb hc
    go_wp2_with (first
     | (go_at_call 72;refine (eof_any HL.out.at (by omega) (by simp;omega)).mono ?_;simp only [hI2];rintro e w' ⟨rfl,n,rfl⟩)
     | (go_at_call 91;refine (slice_named 0 2 _ _ v (HL.out.drewN _).at (by omega) (by simp;omega) (by simp;omega) (by omega) (by omega) rfl (by rfl) hv).mono ?_;rintro e w' ⟨rfl,n2,rfl⟩)
     | (go_at_call 75;refine (skipN_named 2 _ (HL.out.drewN _).at.pos ((HL.out.drewN _).free 9) (by simp;omega) (by omega) (by rfl)).mono ?_;rintro e w6 ⟨rfl,rfl⟩))
    go_ret
    rw [HX.out]
    refine ⟨rfl, ?_,grown_set (grown_drewN HG.out _) 9 _⟩
    have e:x.at_+(2+(k-x.at_))=k+2:=by omega
    rw [e]
    exact (HL.out.drewN _).set 9 _ _ rfl hlen
   ·have hcv:(v.toList==[42,47])=false:=by rw [hvl.out];simpa using hc
    have HX:=Lib.hid (show (lx.blockEnd (rest s (k+1))).map (·+(k+1-x.at_))=o by
     rw [←HE.out,rest_cons s k hin,block_miss (by rw [←rest_cons s k hin];exact hc),Option.map_map]
     congr 1
     funext j
     simp
     omega)
    clear hc
    go_wp2_with (first
     | (go_at_call 72;refine (eof_any HL.out.at (by omega) (by simp;omega)).mono ?_;simp only [hI2];rintro e w' ⟨rfl,n,rfl⟩)
     | (go_at_call 91;refine (slice_named 0 2 _ _ v (HL.out.drewN _).at (by omega) (by simp;omega) (by simp;omega) (by omega) (by omega) rfl (by rfl) hv).mono ?_;rintro e w' ⟨rfl,n2,rfl⟩)
     | (go_at_call 81;refine (skip_any (HL.out.drewN _).at ((HL.out.drewN _).free 9) (by omega) hin).mono ?_;rintro e w6 ⟨rfl,n3,rfl⟩))
    have HL6:=Lib.hid ((HL.out.drewN (n+n2+n3)).set 9 (.int .i64 ((k+1:Nat):Int)) { x with at_:=k+1 } rfl (by simp;omega))
    go_round
    case rel=>exact ⟨k+1,HL6.out,grown_set (grown_drewN HG.out _) 9 _,HX.out,by omega,by omega⟩
    case measure =>
     have e1:=HL6.out.place
     have e2:=HL.out.place
     simp only at e1 e2
     show s.size-placeIn ((wr.drewN (n+n2+n3)).setCell ⟨b,9,none⟩ (.int .i64 ((k+1:Nat):Int))) b<_
     rw [e1,e2]
     omega
  ·have hI2:(!(inB s k))=true:=by simp [inB,hin]
   have hx:=HE.out
   rw [rest_nil s k hin] at hx
   have HX:=Lib.hid (show o=none from hx.symm)
   have hks:k=s.size:=by omega
   clear hx
   cases np
   ·have c9':∀n,(wr.drewN n).cell? ⟨b,9,none⟩=some (.int .i64 (k:Int)):=fun n=>HL.out.cell 9
    go_wp2_with (first
     | (go_at_call 72;refine (eof_any HL.out.at (by omega) (by simp;omega)).mono ?_;simp only [hI2];rintro e w' ⟨rfl,n,rfl⟩)
     | (go_at_call 108;refine (panicfAt_any (HL.out.drewN _) x.at_ s.size _ LE (Nat.le_refl _)).mono ?_;rintro e w' ⟨m,rfl,hm⟩;have HM:=Lib.hid hm;clear hm))
    rw [HX.out]
    exact ⟨rfl,Faults.trans (Grown2.of (grown_drewN HG.out n)) ⟨m,rfl,HM.out⟩⟩
   ·go_wp2_with (go_at_call 72;refine (eof_any HL.out.at (by omega) (by simp;omega)).mono ?_;simp only [hI2];rintro e w' ⟨rfl,n,rfl⟩)
    go_ret
    rw [HX.out]
    refine ⟨rfl, ?_,grown_drewN HG.out n⟩
    rw [←hks]
    exact HL.out.drewN n
end Go.Proofs.YtaamolahbkgofaaGreatDoor.lex
namespace Go.Proofs.YtaamolahbkgofaaGreatDoor.lex
open Go.RowKit mem lines
/-- The rune that a text begins with, if it is an ASCII one, is its first byte. -/
theorem rune_first (s:ByteArray) (p:Nat) (hp:p≤s.size) (c:Nat) (hc:c<128):(Lib.decodeGo (s.extract p s.size)).1=c↔lx.nb (rest s p) 0=c:=by
 have e:(s.extract p s.size).size=s.size-p:=by simp
 by_cases h:p<s.size
 ·have hb:=nb_in s p 0 (by omega)
  rw [bt_in (by omega)] at hb
  have h0:(s.extract p s.size).get! 0=s[p]:=by
   rw [Utf8W.get!_of_lt _ 0 (by omega)]
   simp [ByteArray.getElem_extract]
  have hb':lx.nb (rest s p) 0=s[p].toNat:=by
   have e1:s[p+0]=s[p]:=rfl
   rw [e1] at hb
   omega
  rw [hb']
  unfold Lib.decodeGo
  rw [if_neg (by omega),Lib.decode_at,h0]
  have l0:=s[p].toNat_lt
  generalize s[p].toNat=b0 at *
  generalize ((s.extract p s.size).get! (0+1)).toNat=b1 at *
  generalize ((s.extract p s.size).get! (0+2)).toNat=b2 at *
  generalize ((s.extract p s.size).get! (0+3)).toNat=b3 at *
  unfold Lib.decodeN
  repeat' split
  all_goals simp only
  all_goals omega
 ·have hb:=nb_out s p 0 (by omega)
  rw [hb]
  unfold Lib.decodeGo
  rw [if_pos (by omega)]
  simp only
  omega
/-- peekIs, its numbers and its answer by names. -/
theorem peekIs_named {w:World} {b f p:Nat} {s:ByteArray} (i:Nat) (z c:Int) (v:Bool) (h:At w b f s p) (hs:s.size≤1000000) (hp:p≤1000000) (hi:i≤1000000) (hz:z=i) (hv:Hid (isB s (p+i) c=v)) :
  Calls Tryz.prog 76 #[.pointer (some ⟨b,0,none⟩),.int .i64 z,.int .u8 c] w fun e w'=>e=.returned (.bool v)∧∃n,w'=w.drewN n:=by
 subst hz
 have:=hv.out
 subst this
 exact peekIs_any i c h hs hp hi
theorem isB_yes {s:ByteArray} {p i:Nat} {c:Nat} (hc:c≤255) (h:lx.nb (rest s p) i=c):Hid (isB s (p+i) (c:Int)=true):=by
 show _=_
 rw [isB_nb s p i c (by omega),h];simp
theorem isB_no {s:ByteArray} {p i:Nat} {c:Nat} (hc:c≤255) (h:¬lx.nb (rest s p) i=c):Hid (isB s (p+i) (c:Int)=false):=by
 show _=_
 rw [isB_nb s p i c (by omega)];simp;omega
/-- What passing over one comment comes to. -/
def CommPost (np:Bool) (B b f:Nat) (s:ByteArray) (x:St) (o:lx.Com) (w:World) (e:Ending) (w':World):Prop :=
 match o with
 | .no=>Says (.bool false) B b f s x w e w'
 | .some m=>Says (.bool false) B b f s { x with at_:=x.at_+m } w e w'
 | .open_=>if np=true then Says (.bool true) B b f s { x with at_:=s.size } w e w' else Faults b f w e w'
theorem Says.trans {v:Value} {B b f:Nat} {s:ByteArray} {x:St} {u w w':World} {e:Ending} (h:u.grownBy w (some b)) (k:Says v B b f s x w e w'):Says v B b f s x u e w':=⟨k.1,k.2.1,grown_trans h k.2.2⟩
set_option maxHeartbeats 1000000 in
set_option maxRecDepth 100000 in
theorem skipComment_any {w:World} {B b f:Nat} {s:ByteArray} {x:St} (np:Bool) (h:LexS w B b f s x) :
  Calls Tryz.prog 55 #[.pointer (some ⟨b,0,none⟩),.bool np] w (CommPost np B b f s x (lx.comment (rest s x.at_)) w):=by
 have HK:=Lib.hid (Held.mk h (grown_refl w (some b)))
 have SZ:=h.sz
 have LE:=h.le
 obtain ⟨c0,c1,c9⟩:=h.at
 clear h
 have i1:(x.at_:Int)≤(s.size:Int):=by omega
 have i2:((x.at_:Int)).toNat=x.at_:=by omega
 have R35:=Lib.hid (rune_first s x.at_ LE 35 (by omega))
 have R45:=Lib.hid (rune_first s x.at_ LE 45 (by omega))
 have R47:=Lib.hid (rune_first s x.at_ LE 47 (by omega))
 generalize hd:Lib.decodeGo (s.extract x.at_ s.size)=d at R35 R45 R47
 obtain ⟨r,z⟩:=d
 have HD:=Lib.hid hd
 clear hd
 go_enter Tryz.func55,Tryz.ntmps55
 go_wp2_with fail
 go_region_held3 (fun W=>W.cell? ⟨b,0,none⟩=some (.pointer (some ⟨f,0,none⟩))∧W.cell? ⟨f,1,none⟩=some (.string s)∧W.cell? ⟨b,9,none⟩=some (.int .i64 (x.at_:Int))∧Hid (Held w B b f s x W))
  (first|exact held_S (held_drew HK)|exact held_S (held_below (‹_∧_∧_∧Hid (Held _ _ _ _ _ _ _)›).2.2.2 ‹Hid (Below _ _ _)›)|exact held_S (held_drew (‹_∧_∧_∧Hid (Held _ _ _ _ _ _ _)›).2.2.2)|exact held_S (‹_∧_∧_∧Hid (Held _ _ _ _ _ _ _)›).2.2.2)
  (first|(go_at_call 73;refine (Tryz.utf8_DecodeRuneInString _ _ (held_utf (‹_∧_∧_∧Hid (Held _ _ _ _ _ _ _)›).2.2.2)).mono ?_;rw [HD.out];rintro e w4 ⟨rfl,hb⟩;have HB:=Lib.hid hb;clear hb))
 have HK4:=(‹_∧_∧_∧Hid (Held _ _ _ _ _ _ _)›).2.2.2
 have HL:=Lib.hid HK4.out.lex
 have HG:=Lib.hid HK4.out.grown
 clear HK HK4 c0 c1 c9 i1 i2
 obtain ⟨o,ho⟩:∃o,Hid (lx.comment (rest s x.at_)=o):=⟨_,rfl⟩
 rw [ho.out]
 by_cases h35:r=35
 ·subst h35
  have e0:=R35.out.1 rfl
  have HX:=Lib.hid (show o=.some (lx.lineEnd (rest s x.at_)) by rw [←ho.out];unfold lx.comment;rw [if_pos (.inl e0)])
  clear e0
  go_wp2_with (go_at_call 77;refine (skipLine_any np HL.out).mono ?_;rintro e w5 ⟨rfl,hl,hg⟩;have HL5:=Lib.hid hl;have HG5:=Lib.hid (grown_trans HG.out hg);clear hl hg)
  go_ret
  rw [ho.out,HX.out]
  exact ⟨rfl,HL5.out,HG5.out⟩
 ·have n35:¬lx.nb (rest s x.at_) 0=35:=fun e=>h35 (R35.out.2 e)
  have b35:((r:Int)==35)=false:=by simp;omega
  by_cases h45:r=45
  ·subst h45
   have e0:=R45.out.1 rfl
   by_cases h1:lx.nb (rest s x.at_) 1=45
   ·have HX:=Lib.hid (show o=.some (lx.lineEnd (rest s x.at_)) by rw [←ho.out];unfold lx.comment;rw [if_pos (.inr ⟨e0,h1⟩)])
    have HI:Hid (isB s (x.at_+1) 45=true):=isB_yes (c:=45) (by omega) h1
    clear e0 h1 n35 h35
    go_wp2_with (first
     | (go_at_call 76;refine (peekIs_named 1 _ _ true HL.out.at (by omega) (by omega) (by omega) (by rfl) HI).mono ?_;rintro e w' ⟨rfl,n,rfl⟩)
     | (go_at_call 77;refine (skipLine_any np (HL.out.drewN _)).mono ?_;rintro e w5 ⟨rfl,hl,hg⟩;have HL5:=Lib.hid hl;have HG5:=Lib.hid (grown_trans (grown_drewN HG.out _) hg);clear hl hg))
    go_ret
    rw [ho.out,HX.out]
    exact ⟨rfl,HL5.out,HG5.out⟩
   ·have HX:=Lib.hid (show o=.no by
     rw [←ho.out];unfold lx.comment
     rw [if_neg (by omega),if_neg (by omega)])
    have HI:Hid (isB s (x.at_+1) 45=false):=isB_no (c:=45) (by omega) h1
    clear e0 h1 n35 h35
    go_wp2_with (go_at_call 76;refine (peekIs_named 1 _ _ false HL.out.at (by omega) (by omega) (by omega) (by rfl) HI).mono ?_;rintro e w' ⟨rfl,n,rfl⟩)
    go_ret
    rw [ho.out,HX.out]
    exact ⟨rfl,HL.out.drewN _,grown_drewN HG.out _⟩
  ·have n45:¬lx.nb (rest s x.at_) 0=45:=fun e=>h45 (R45.out.2 e)
   have b45:((r:Int)==45)=false:=by simp;omega
   by_cases h47:r=47
   ·subst h47
    have e0:=R47.out.1 rfl
    by_cases h1:lx.nb (rest s x.at_) 1=42
    ·have HX:=Lib.hid (show o=(match lx.blockEnd (rest s x.at_) with|some n=>lx.Com.some n|none=>.open_) by
      rw [←ho.out];unfold lx.comment
      rw [if_neg (by omega),if_pos ⟨e0,h1⟩]
      cases lx.blockEnd (rest s x.at_) <;> rfl)
     have HI:Hid (isB s (x.at_+1) 42=true):=isB_yes (c:=42) (by omega) h1
     clear e0 h1 n35 h35 n45 h45
     go_wp2_with (go_at_call 76;refine (peekIs_named 1 _ _ true HL.out.at (by omega) (by omega) (by omega) (by rfl) HI).mono ?_;rintro e w' ⟨rfl,n,rfl⟩)
     have HB:=Lib.hid (skipBlock_any np (HL.out.drewN n))
     cases hbe:lx.blockEnd (rest s x.at_) with
     | some m =>
      have HO:=Lib.hid (show o=lx.Com.some m by rw [HX.out,hbe])
      rw [hbe] at HB
      clear HX hbe
      go_wp2_with (go_at_call 77;refine HB.out.mono ?_;rintro e w5 ⟨rfl,hl,hg⟩;have HL5:=Lib.hid hl;have HG5:=Lib.hid (grown_trans (grown_drewN HG.out _) hg);clear hl hg)
      go_ret
      rw [ho.out,HO.out]
      exact ⟨rfl,HL5.out,HG5.out⟩
     | none =>
      have HO:=Lib.hid (show o=lx.Com.open_ by rw [HX.out,hbe])
      rw [hbe] at HB
      clear HX hbe
      cases np
      ·go_wp2_with (go_at_call 77;refine HB.out.mono ?_;rintro e w5 ⟨m,rfl,hm⟩;have HM:=Lib.hid hm;clear hm)
       rw [ho.out,HO.out]
       exact ⟨rfl,Faults.trans (Grown2.of (grown_drewN HG.out n)) ⟨m,rfl,HM.out⟩⟩
      ·go_wp2_with (go_at_call 77;refine HB.out.mono ?_;rintro e w5 ⟨rfl,hl,hg⟩;have HL5:=Lib.hid hl;have HG5:=Lib.hid (grown_trans (grown_drewN HG.out _) hg);clear hl hg)
       go_ret
       rw [ho.out,HO.out]
       exact ⟨rfl,HL5.out,HG5.out⟩
    ·have HX:=Lib.hid (show o=.no by
      rw [←ho.out];unfold lx.comment
      rw [if_neg (by omega),if_neg (by omega)])
     have HI:Hid (isB s (x.at_+1) 42=false):=isB_no (c:=42) (by omega) h1
     clear e0 h1 n35 h35 n45 h45
     go_wp2_with (go_at_call 76;refine (peekIs_named 1 _ _ false HL.out.at (by omega) (by omega) (by omega) (by rfl) HI).mono ?_;rintro e w' ⟨rfl,n,rfl⟩)
     go_ret
     rw [ho.out,HX.out]
     exact ⟨rfl,HL.out.drewN _,grown_drewN HG.out _⟩
   ·have n47:¬lx.nb (rest s x.at_) 0=47:=fun e=>h47 (R47.out.2 e)
    have b47:((r:Int)==47)=false:=by simp;omega
    have HX:=Lib.hid (show o=.no by
     rw [←ho.out];unfold lx.comment
     rw [if_neg (by omega),if_neg (by omega)])
    clear n35 n45 n47
    go_wp2_with fail
    go_ret
    rw [ho.out,HX.out]
    exact ⟨rfl,HL.out,HG.out⟩
end Go.Proofs.YtaamolahbkgofaaGreatDoor.lex
namespace Go.Proofs.YtaamolahbkgofaaGreatDoor.lex
open Go.RowKit mem lines
theorem dot_any (k:ByteArray) (w:World):Calls Tryz.prog 82 #[.string k] w fun e w'=>e=.returned (.bool (lx.dotKind k.data.toList))∧w=w':=by
 go_enter Tryz.func82,Tryz.ntmps82
 go_wp2
 all_goals go_ret
 all_goals refine ⟨ret_bool ?_,rfl⟩
 all_goals rw [←Lib.toList_data]
 all_goals unfold lx.dotKind lx.kIdent lx.kParam
 all_goals simp_all
/-- peek, its number and its answer by names. -/
theorem peek_named {w:World} {b f p:Nat} {s:ByteArray} (i:Nat) (z c:Int) (h:At w b f s p) (hi:p+i<s.size) (hs:s.size≤1000000) (hz:z=i) (hc:Hid (bt s (p+i)=c)) :
  Calls Tryz.prog 80 #[.pointer (some ⟨b,0,none⟩),.int .i64 z] w fun e w'=>e=.returned (.int .u8 c)∧∃n,w'=w.drewN n:=by
 subst hz
 have:=hc.out
 subst this
 exact peek_any i h hi hs
/-- A text; whatever lay, lies. -/
def Gives (v:Value) (w:World) (e:Ending) (w':World):Prop:=e=.returned v∧Below w.heap.size w w'
theorem one_back (c:UInt8) (W:World) (n:Nat) :
  (convert 37 9 (.slice (some ⟨W.heap.size,0,none⟩) 1 1)).run Tryz.prog ((W.drewN n).alloc (.cells #[.int .u8 (c.toNat:Int)] 5))=.ok (.string ⟨#[c]⟩) ((W.drewN n).alloc (.cells #[.int .u8 (c.toNat:Int)] 5)):=by
 have hnew:((W.drewN n).alloc (.cells #[.int .u8 (c.toNat:Int)] 5)).heap[W.heap.size]?=some (.cells #[.int .u8 (c.toNat:Int)] 5 (0,0)):=by
  show (W.heap.push _)[W.heap.size]?=_
  simp
 refine run_convert_bytes_back _ 37 9 5 ⟨W.heap.size,0,none⟩ 1 [c] Tryz.underlying37 Tryz.underlying5 Tryz.underlying9 fun j hj=>?_
 have h0:j=0:=by simpa using hj
 subst h0
 exact cells_of_heap hnew 0
theorem delim_eq (s:ByteArray) (p:Nat) (c:UInt8) (hp:p<s.size) (h:bt s p=(c.toNat:Int)) :
  lx.delim (rest s p)=if lx.nb (rest s p) 1=c.toNat∧lx.nb (rest s p) 2=c.toNat then [c,c,c] else [c]:=by
 rw [bt_in hp] at h
 have e:s[p]=c:=UInt8.toNat_inj.1 (by omega)
 rw [rest_cons s p hp,e]
 rfl
set_option maxHeartbeats 1000000 in
set_option maxRecDepth 100000 in
theorem delim_any {w:World} {B b f:Nat} {s:ByteArray} {x:St} (h:LexS w B b f s x) (hin:x.at_<s.size) (hq:bt s x.at_=34∨bt s x.at_=39) :
  Calls Tryz.prog 115 #[.pointer (some ⟨b,0,none⟩)] w (Gives (.string ⟨(lx.delim (rest s x.at_)).toArray⟩) w):=by
 have SZ:=h.sz
 have HL:=Lib.hid h
 have HQ:=Lib.hid hq
 clear h hq
 have k34:∀(W:World) (n:Nat),(convert 37 9 (.slice (some ⟨W.heap.size,0,none⟩) 1 1)).run Tryz.prog ((W.drewN n).alloc (.cells #[.int .u8 34] 5))=.ok (.string ⟨#[34]⟩) ((W.drewN n).alloc (.cells #[.int .u8 34] 5)):=one_back 34
 have k39:∀(W:World) (n:Nat),(convert 37 9 (.slice (some ⟨W.heap.size,0,none⟩) 1 1)).run Tryz.prog ((W.drewN n).alloc (.cells #[.int .u8 39] 5))=.ok (.string ⟨#[39]⟩) ((W.drewN n).alloc (.cells #[.int .u8 39] 5)):=one_back 39
 go_enter Tryz.func115,Tryz.ntmps115
 rcases HQ.out with h34|h39
 ·have HC:Hid (bt s (x.at_+0)=34):=h34
  have hd:lx.delim (rest s x.at_)=if lx.nb (rest s x.at_) 1=34∧lx.nb (rest s x.at_) 2=34 then [34,34,34] else [34]:=delim_eq s x.at_ 34 hin h34
  have HD:=Lib.hid hd
  clear hd h34
  go_wp2_with (go_at_call 80;refine (peek_named 0 _ 34 HL.out.at hin (by omega) (by rfl) HC).mono ?_;rintro e w' ⟨rfl,n,rfl⟩)
  have HB0:=Lib.hid (below_drewN (Below.refl w.heap.size w) n)
  have HL0:=Lib.hid (HL.out.drewN n)
  generalize w.drewN n=w1 at HB0 HL0 ⊢
  go_loopw [3,5] (fun v t wr=>∃i:Nat,1≤i∧i≤3∧v=.int .i64 (i:Int)∧t=.bool true∧Hid (∀j,1≤j→j<i→lx.nb (rest s x.at_) j=34)∧Hid (Below w.heap.size w wr)∧Hid (LexS wr B b f s x)) (fun v _ _=>3-(intOf v).toNat)
  case atStart=>exact ⟨1,Nat.le_refl _,by omega,rfl,rfl,fun j h1 h2=>by omega,HB0.out,HL0.out⟩
  case round =>
   obtain ⟨i,h1,h3,rfl,rfl,HJ,HB,HL1⟩:=hrel
   by_cases hi:i<3
   ·by_cases hm:lx.nb (rest s x.at_) i=34
    ·have HI:Hid (isB s (x.at_+i) 34=true):=isB_yes (c:=34) (by omega) hm
     go_wp2_with (go_at_call 76;refine (peekIs_named i _ _ true HL1.out.at (by omega) (by have:=HL1.out.le;omega) (by omega) rfl HI).mono ?_;rintro e w' ⟨rfl,n2,rfl⟩)
     go_round
     case rel=>exact ⟨i+1,by omega,by omega,by go_num,rfl,fun j k1 k2=>if e:j=i then by rw [e];exact hm else HJ.out j k1 (by omega),below_drewN HB.out _,HL1.out.drewN _⟩
     case measure=>simp [intOf];omega
    ·have HI:Hid (isB s (x.at_+i) 34=false):=isB_no (c:=34) (by omega) hm
     have HX:=Lib.hid (show lx.delim (rest s x.at_)=[34] by
      rw [HD.out,if_neg]
      rintro ⟨k1,k2⟩
      have:i=1∨i=2:=by omega
      rcases this with rfl|rfl
      ·exact hm k1
      ·exact hm k2)
     go_wp2_with (go_at_call 76;refine (peekIs_named i _ _ false HL1.out.at (by omega) (by have:=HL1.out.le;omega) (by omega) rfl HI).mono ?_;rintro e w' ⟨rfl,n2,rfl⟩)
     go_ret
     rw [HX.out]
     exact ⟨rfl,(below_drewN HB.out n2).alloc (Nat.le_trans HB.out.size (Nat.le_refl _)) _⟩
   ·have h3':i=3:=by omega
    subst h3'
    have HX:=Lib.hid (show lx.delim (rest s x.at_)=[34,34,34] by
     rw [HD.out,if_pos ⟨HJ.out 1 (by omega) (by omega),HJ.out 2 (by omega) (by omega)⟩])
    go_wp2_with fail
    go_ret
    rw [HX.out]
    exact ⟨rfl,HB.out⟩
 ·have HC:Hid (bt s (x.at_+0)=39):=h39
  have hd:lx.delim (rest s x.at_)=if lx.nb (rest s x.at_) 1=39∧lx.nb (rest s x.at_) 2=39 then [39,39,39] else [39]:=delim_eq s x.at_ 39 hin h39
  have HD:=Lib.hid hd
  clear hd h39
  go_wp2_with (go_at_call 80;refine (peek_named 0 _ 39 HL.out.at hin (by omega) (by rfl) HC).mono ?_;rintro e w' ⟨rfl,n,rfl⟩)
  have HB0:=Lib.hid (below_drewN (Below.refl w.heap.size w) n)
  have HL0:=Lib.hid (HL.out.drewN n)
  generalize w.drewN n=w1 at HB0 HL0 ⊢
  go_loopw [3,5] (fun v t wr=>∃i:Nat,1≤i∧i≤3∧v=.int .i64 (i:Int)∧t=.bool true∧Hid (∀j,1≤j→j<i→lx.nb (rest s x.at_) j=39)∧Hid (Below w.heap.size w wr)∧Hid (LexS wr B b f s x)) (fun v _ _=>3-(intOf v).toNat)
  case atStart=>exact ⟨1,Nat.le_refl _,by omega,rfl,rfl,fun j h1 h2=>by omega,HB0.out,HL0.out⟩
  case round =>
   obtain ⟨i,h1,h3,rfl,rfl,HJ,HB,HL1⟩:=hrel
   by_cases hi:i<3
   ·by_cases hm:lx.nb (rest s x.at_) i=39
    ·have HI:Hid (isB s (x.at_+i) 39=true):=isB_yes (c:=39) (by omega) hm
     go_wp2_with (go_at_call 76;refine (peekIs_named i _ _ true HL1.out.at (by omega) (by have:=HL1.out.le;omega) (by omega) rfl HI).mono ?_;rintro e w' ⟨rfl,n2,rfl⟩)
     go_round
     case rel=>exact ⟨i+1,by omega,by omega,by go_num,rfl,fun j k1 k2=>if e:j=i then by rw [e];exact hm else HJ.out j k1 (by omega),below_drewN HB.out _,HL1.out.drewN _⟩
     case measure=>simp [intOf];omega
    ·have HI:Hid (isB s (x.at_+i) 39=false):=isB_no (c:=39) (by omega) hm
     have HX:=Lib.hid (show lx.delim (rest s x.at_)=[39] by
      rw [HD.out,if_neg]
      rintro ⟨k1,k2⟩
      have:i=1∨i=2:=by omega
      rcases this with rfl|rfl
      ·exact hm k1
      ·exact hm k2)
     go_wp2_with (go_at_call 76;refine (peekIs_named i _ _ false HL1.out.at (by omega) (by have:=HL1.out.le;omega) (by omega) rfl HI).mono ?_;rintro e w' ⟨rfl,n2,rfl⟩)
     go_ret
     rw [HX.out]
     exact ⟨rfl,(below_drewN HB.out n2).alloc (Nat.le_trans HB.out.size (Nat.le_refl _)) _⟩
   ·have h3':i=3:=by omega
    subst h3'
    have HX:=Lib.hid (show lx.delim (rest s x.at_)=[39,39,39] by
     rw [HD.out,if_pos ⟨HJ.out 1 (by omega) (by omega),HJ.out 2 (by omega) (by omega)⟩])
    go_wp2_with fail
    go_ret
    rw [HX.out]
    exact ⟨rfl,HB.out⟩
end Go.Proofs.YtaamolahbkgofaaGreatDoor.lex
namespace Go.Proofs.YtaamolahbkgofaaGreatDoor.lex
open Go.RowKit mem lines plain
theorem new_cell (W:World) (z:Int) (c:UInt8) (h:(c.toNat:Int)=z):∀j u,([c].map u8V)[j]?=some u→(W.alloc (.cells #[.int .u8 z] 5)).cell? ((⟨W.heap.size,0,none⟩:Addr).add j)=some u:=by
 intro j u hj
 have h0:j=0:=by
  rcases Nat.eq_zero_or_pos j with h0|h0
  ·exact h0
  ·rw [List.getElem?_eq_none (by simp;omega)] at hj;cases hj
 subst h0
 have hu:u=.int .u8 z:=by
  have:u8V c=u:=by simpa using hj
  rw [←this,←h];rfl
 subst hu
 have hnew:(W.alloc (.cells #[.int .u8 z] 5)).heap[W.heap.size]?=some (.cells #[.int .u8 z] 5 (0,0)):=by
  show (W.heap.push _)[W.heap.size]?=_
  simp
 exact cells_of_heap hnew 0
theorem below_alloc (W:World) (o:Obj):Below W.heap.size W (W.alloc o):=(Below.refl _ _).alloc (Nat.le_refl _) o
/-- What ToUpper's loop holds behind k rounds. -/
def UpRow (base:Nat) (s:ByteArray) (k:Nat) (v:Value) (W:World):Prop :=
 (v=.slice none 0 0∧(s.data.toList.take k).map up=s.data.toList.take k)∨((v=.slice none 0 0→False)∧∃g cap,v=.slice (some ⟨g,0,none⟩) k cap∧Row base v k ((s.data.toList.take k).map up) W)
theorem take_next (s:ByteArray) (k:Nat) (h:k<s.size):s.data.toList.take (k+1)=s.data.toList.take k++[s[k]]:=by
 have hl:k<s.data.toList.length:=by rw [size_list];exact h
 rw [List.take_succ_eq_append_getElem hl]
 rfl
theorem up_row {base k:Nat} {s:ByteArray} {c:UInt8} {v:Value} {W:World} (hT:s.data.toList.take (k+1)=s.data.toList.take k++[c]) (h:Row base v (k+1) ((s.data.toList.take k).map up++[up c]) W) (hn:v=.slice none 0 0→False) :
  (v=.slice none 0 0→False)∧∃g cap,v=.slice (some ⟨g,0,none⟩) (k+1) cap∧Row base v (k+1) ((s.data.toList.take (k+1)).map up) W:=by
 refine ⟨hn, ?_⟩
 have hR:Row base v (k+1) ((s.data.toList.take (k+1)).map up) W:=by rw [hT,List.map_append];exact h
 rcases h.2 with ⟨e,_⟩|⟨g,cap,hv,_⟩
 ·exact absurd e (fun e=>hn e)
 ·exact ⟨g,cap,hv,hR⟩
set_option maxHeartbeats 1000000 in
set_option maxRecDepth 100000 in
theorem toUpper_any (s:ByteArray) (w:World) (hs:s.size≤1000000):Calls Tryz.prog 50 #[.string s] w (Gives (.string ⟨(s.data.toList.map up).toArray⟩) w):=by
 have hne:=fun (W:World) a n c=>run_neq_slice_nil_any (P:=Tryz.prog) W 37 5 a n c 0 0 Tryz.underlying37
 have heq:=fun (W:World) a n c=>Lib.run_eql_slice_nil (P:=Tryz.prog) W 37 5 a n c 0 0 Tryz.underlying37
 go_enter Tryz.func50,Tryz.ntmps50
 go_wp2_with fail
 go_loopw [3,4] (fun v i wr=>∃k:Nat,k≤s.size∧i=.int .i64 (k:Int)∧Hid (Below w.heap.size w wr)∧Hid (UpRow w.heap.size s k v wr)) (fun _ i _=>s.size-(intOf i).toNat)
 case atStart=>exact ⟨0,Nat.zero_le _,rfl,Below.refl _ _,.inl ⟨rfl,rfl⟩⟩
 case round =>
  obtain ⟨k,hk,rfl,HB,HU⟩:=hrel
  by_cases hlt:k<s.size
  ·have HT:=Lib.hid (take_next s k hlt)
   have B1:(s[k].toNat:Int)≤255:=by have:=s[k].toNat_lt;omega
   by_cases hlow:97≤s[k].toNat∧s[k].toNat≤122
   ·have HUp:=Lib.hid (up_hit hlow)
    have g1:(97:Int)≤(s[k].toNat:Int):=by omega
    have g2:(s[k].toNat:Int)≤122:=by omega
    have hz:((up s[k]).toNat:Int)=65+((s[k].toNat:Int)-97):=by have:=HUp.out;omega
    have HZ:=Lib.hid hz
    clear hz
    rcases HU.out with ⟨rfl,hsame⟩|⟨hnn,g,cap,rfl,hrow⟩
    ·obtain ⟨v,W1,hconv,hrow,hbel,hvn⟩:=row_conv w.heap.size wr (s.extract 0 k) HB.out.size
     have hex:(s.extract 0 k).data.toList=(s.data.toList.take k).map up:=by rw [hsame];simp [List.extract_eq_take_drop]
     have hes:(s.extract 0 k).size=k:=by simp;omega
     rw [hex,hes] at hrow
     have HC:=Lib.hid (And.intro hrow (And.intro hbel hvn))
     clear hrow hbel hvn hex hes hsame
     go_wp2_with (at_builtin;refine wpList_append_row _ rfl _ _ rfl w.heap.size k _ v rfl (HC.out.1.below (below_alloc W1 _)) (by have h1:=HB.out.size;have h2:=HC.out.2.1.size;simp;omega) _ 1 1 [up s[k]] rfl rfl (by decide) (new_cell W1 _ _ HZ.out) (by omega) ?_;intro v' w2 r1 n1 b1;have R1:=Lib.hid (And.intro r1 (And.intro n1 b1));clear r1 n1 b1)
     refine ⟨⟨k+1,by omega,by go_num, ?_,.inr ?_⟩,by simp [intOf];omega⟩
     ·exact (HB.out.trans (HC.out.2.1.mono HB.out.size)).trans ((below_alloc W1 _).mono (Nat.le_trans HB.out.size HC.out.2.1.size) |>.trans R1.out.2.2)
     ·exact up_row HT.out R1.out.1 R1.out.2.1
    ·go_wp2_with (at_builtin;refine wpList_append_row _ rfl _ _ rfl w.heap.size k _ (.slice (some ⟨g,0,none⟩) k cap) rfl (hrow.below (below_alloc wr _)) (by have h1:=HB.out.size;simp;omega) _ 1 1 [up s[k]] rfl rfl (by decide) (new_cell wr _ _ HZ.out) (by omega) ?_;intro v' w2 r1 n1 b1;have R1:=Lib.hid (And.intro r1 (And.intro n1 b1));clear r1 n1 b1)
     refine ⟨⟨k+1,by omega,by go_num, ?_,.inr ?_⟩,by simp [intOf];omega⟩
     ·exact HB.out.trans (((below_alloc wr _).mono HB.out.size).trans R1.out.2.2)
     ·exact up_row HT.out R1.out.1 R1.out.2.1
   ·have HUp:=Lib.hid (up_miss hlow)
    have HZ:=Lib.hid (show ((up s[k]).toNat:Int)=(s[k].toNat:Int) by rw [HUp.out])
    by_cases h97:97≤s[k].toNat
    ·have g1:(97:Int)≤(s[k].toNat:Int):=by omega
     have g2:(122:Int)<(s[k].toNat:Int):=by omega
     have g3:decide ((s[k].toNat:Int)≤122)=false:=by simp;omega
     clear hlow
     rcases HU.out with ⟨rfl,hsame⟩|⟨hnn,g,cap,rfl,hrow⟩
     ·have HS:=Lib.hid (show (s.data.toList.take (k+1)).map up=s.data.toList.take (k+1) by rw [HT.out,List.map_append,hsame,List.map_singleton,HUp.out])
      clear hsame
      go_wp2_with fail
      exact ⟨⟨k+1,by omega,by go_num,HB.out,.inl ⟨rfl,HS.out⟩⟩,by simp [intOf];omega⟩
     ·go_wp2_with (at_builtin;refine wpList_append_row _ rfl _ _ rfl w.heap.size k _ (.slice (some ⟨g,0,none⟩) k cap) rfl (hrow.below (below_alloc wr _)) (by have h1:=HB.out.size;simp;omega) _ 1 1 [up s[k]] rfl rfl (by decide) (new_cell wr _ _ HZ.out) (by omega) ?_;intro v' w2 r1 n1 b1;have R1:=Lib.hid (And.intro r1 (And.intro n1 b1));clear r1 n1 b1)
      refine ⟨⟨k+1,by omega,by go_num, ?_,.inr ?_⟩,by simp [intOf];omega⟩
      ·exact HB.out.trans (((below_alloc wr _).mono HB.out.size).trans R1.out.2.2)
      ·exact up_row HT.out R1.out.1 R1.out.2.1
    ·have g1:(s[k].toNat:Int)<97:=by omega
     have g3:decide ((97:Int)≤(s[k].toNat:Int))=false:=by simp;omega
     clear hlow
     rcases HU.out with ⟨rfl,hsame⟩|⟨hnn,g,cap,rfl,hrow⟩
     ·have HS:=Lib.hid (show (s.data.toList.take (k+1)).map up=s.data.toList.take (k+1) by rw [HT.out,List.map_append,hsame,List.map_singleton,HUp.out])
      clear hsame
      go_wp2_with fail
      exact ⟨⟨k+1,by omega,by go_num,HB.out,.inl ⟨rfl,HS.out⟩⟩,by simp [intOf];omega⟩
     ·go_wp2_with (at_builtin;refine wpList_append_row _ rfl _ _ rfl w.heap.size k _ (.slice (some ⟨g,0,none⟩) k cap) rfl (hrow.below (below_alloc wr _)) (by have h1:=HB.out.size;simp;omega) _ 1 1 [up s[k]] rfl rfl (by decide) (new_cell wr _ _ HZ.out) (by omega) ?_;intro v' w2 r1 n1 b1;have R1:=Lib.hid (And.intro r1 (And.intro n1 b1));clear r1 n1 b1)
      refine ⟨⟨k+1,by omega,by go_num, ?_,.inr ?_⟩,by simp [intOf];omega⟩
      ·exact HB.out.trans (((below_alloc wr _).mono HB.out.size).trans R1.out.2.2)
      ·exact up_row HT.out R1.out.1 R1.out.2.1
  ·have hks:k=s.size:=by omega
   subst hks
   have hall:s.data.toList.take s.size=s.data.toList:=by rw [←size_list s];exact List.take_length
   rcases HU.out with ⟨rfl,hsame⟩|⟨hnn,g,cap,rfl,hrow⟩
   ·rw [hall] at hsame
    have HS:=Lib.hid hsame
    clear hsame hall
    go_wp2_with fail
    go_ret
    refine ⟨?_,HB.out⟩
    rw [HS.out]
    rfl
   ·rw [hall] at hrow
    have hback:=row_back hrow hnn
    clear hrow hall hnn
    go_wp2_with fail
    go_ret
    exact ⟨rfl,HB.out⟩
theorem isKeyword_any (s:ByteArray) (w:World) (hs:s.size≤1000000):Calls Tryz.prog 33 #[.string s] w (Gives (.bool (lx.keyword (s.data.toList.map up))) w):=by
 go_enter Tryz.func33,Tryz.ntmps33
 go_wp2_with (first
  | (go_at_call 50;refine (toUpper_any s w hs).mono ?_;rintro e w' ⟨rfl,hb⟩;have HB:=Lib.hid hb;clear hb)
  | (go_at_call 49;refine (keyword_any _ _).mono ?_;rintro e w' ⟨rfl,rfl⟩))
 go_ret
 exact ⟨rfl,HB.out⟩
theorem impl_keyword_any (s:ByteArray) (w:World) (hs:s.size≤1000000):Calls Tryz.prog 17 #[.string s] w (Gives (.bool (lx.keyword (s.data.toList.map up))) w):=by
 go_enter Tryz.func17,Tryz.ntmps17
 go_wp2_with (go_at_call 33;refine (isKeyword_any s w hs).mono ?_;rintro e w' ⟨rfl,hb⟩;have HB:=Lib.hid hb;clear hb)
 go_ret
 exact ⟨rfl,HB.out⟩
end Go.Proofs.YtaamolahbkgofaaGreatDoor.lex
namespace Go.Proofs.YtaamolahbkgofaaGreatDoor.lex
/-- From the k-th byte on the scan still comes to R. -/
def NumAt (b16:Bool) (s:ByteArray) (p:Nat) (R:Nat × Bool) (k:Nat) (int exp:Bool):Prop :=
 ∃n,(rest s (p+k)).length≤n∧(lx.numScan b16 n int exp (rest s (p+k))).1+k=R.1∧(lx.numScan b16 n int exp (rest s (p+k))).2=R.2
section
variable {b16:Bool} {s:ByteArray} {p k:Nat} {R:Nat × Bool} {int exp:Bool}
theorem NumAt.last (h:NumAt b16 s p R k int exp) (hk:¬p+k<s.size):R.1=k∧R.2=int:=by
 obtain ⟨n,_,h1,h2⟩:=h
 rw [rest_nil s _ hk] at h1 h2
 cases n with
 | zero=>exact ⟨by rw [←h1];simp [lx.numScan],h2.symm⟩
 | succ n=>exact ⟨by rw [←h1];simp [lx.numScan],h2.symm⟩
theorem NumAt.unfold (h:NumAt b16 s p R k int exp) (hk:p+k<s.size) :
  ∃n,(rest s (p+k+1)).length≤n∧(lx.numScan b16 (n+1) int exp (s[p+k]::rest s (p+k+1))).1+k=R.1∧(lx.numScan b16 (n+1) int exp (s[p+k]::rest s (p+k+1))).2=R.2:=by
 obtain ⟨n,h0,h1,h2⟩:=h
 rw [rest_cons s _ hk] at h0 h1 h2
 simp only [List.length_cons] at h0
 obtain ⟨m,rfl⟩:∃m,n=m+1:=⟨n-1,by omega⟩
 exact ⟨m,by omega,h1,h2⟩
theorem NumAt.dig (h:NumAt false s p R k int exp) (hk:p+k<s.size) (hd:lx.dig s[p+k]=true):NumAt false s p R (k+1) int exp:=by
 obtain ⟨n,h0,h1,h2⟩:=h.unfold hk
 unfold lx.numScan at h1 h2
 rw [if_pos (by simp [hd])] at h1 h2
 exact ⟨n,h0,by show _+(k+1)=_;rw [←h1];show _=_+1+k;rw [show p+(k+1)=p+k+1 from rfl];omega,h2⟩
theorem NumAt.hex (h:NumAt true s p R k int exp) (hk:p+k<s.size) (hd:lx.hex s[p+k]=true):NumAt true s p R (k+1) int exp:=by
 obtain ⟨n,h0,h1,h2⟩:=h.unfold hk
 unfold lx.numScan at h1 h2
 rw [if_neg (by simp),if_pos (by simp [hd])] at h1 h2
 exact ⟨n,h0,by show _+(k+1)=_;rw [←h1];show _=_+1+k;rw [show p+(k+1)=p+k+1 from rfl];omega,h2⟩
theorem NumAt.nohex (h:NumAt true s p R k int exp) (hk:p+k<s.size) (hd:lx.hex s[p+k]=false):R.1=k∧R.2=int:=by
 obtain ⟨n,h0,h1,h2⟩:=h.unfold hk
 unfold lx.numScan at h1 h2
 rw [if_neg (by simp),if_neg (by simp [hd]),if_neg (by simp),if_neg (by simp)] at h1 h2
 exact ⟨by rw [←h1];simp,h2.symm⟩
theorem NumAt.dot (h:NumAt false s p R k true false) (hk:p+k<s.size) (hd:s[p+k].toNat=46):NumAt false s p R (k+1) false false:=by
 obtain ⟨n,h0,h1,h2⟩:=h.unfold hk
 have hdg:lx.dig s[p+k]=false:=by simp [lx.dig];omega
 unfold lx.numScan at h1 h2
 rw [if_neg (by simp [hdg]),if_neg (by simp),if_pos (by simp [hd])] at h1 h2
 exact ⟨n,h0,by show _+(k+1)=_;rw [←h1];show _=_+1+k;rw [show p+(k+1)=p+k+1 from rfl];omega,h2⟩
/-- No digit, no dot that counts, no exponent that counts. -/
theorem NumAt.other (h:NumAt false s p R k int exp) (hk:p+k<s.size) (hd:lx.dig s[p+k]=false) (h46:¬(exp=false∧int=true∧s[p+k].toNat=46)) (he:¬(exp=false∧(s[p+k].toNat=69∨s[p+k].toNat=101))) :
  R.1=k∧R.2=int:=by
 obtain ⟨n,h0,h1,h2⟩:=h.unfold hk
 unfold lx.numScan at h1 h2
 rw [if_neg (by simp [hd]),if_neg (by simp),if_neg (by intro hc;apply h46;simp at hc;exact ⟨hc.1.1,hc.1.2,hc.2⟩),if_neg (by intro hc;apply he;simp at hc;exact hc)] at h1 h2
 exact ⟨by rw [←h1];simp,h2.symm⟩
/-- At an exponent. -/
theorem NumAt.expo (h:NumAt false s p R k int false) (hk:p+k<s.size) (he:s[p+k].toNat=69∨s[p+k].toNat=101) :
  (if lx.nb (rest s p) (k+1)=43∨lx.nb (rest s p) (k+1)=45 then
   (if 48≤lx.nb (rest s p) (k+2)∧lx.nb (rest s p) (k+2)≤57 then NumAt false s p R (k+2) false true else (R.1=k∧R.2=int))
  else (if 48≤lx.nb (rest s p) (k+1)∧lx.nb (rest s p) (k+1)≤57 then NumAt false s p R (k+1) false true else (R.1=k∧R.2=int))):=by
 obtain ⟨n,h0,h1,h2⟩:=h.unfold hk
 have e1:∀i,lx.nb (rest s (p+k+1)) i=lx.nb (rest s p) (k+1+i):=fun i=>by
  unfold lx.nb
  have:(rest s (p+k+1))[i]?=(rest s p)[k+1+i]?:=by
   simp only [rest,List.getElem?_drop]
   congr 1;omega
  rw [this]
 have hdg:lx.dig s[p+k]=false:=by simp [lx.dig];omega
 unfold lx.numScan at h1 h2
 rw [if_neg (by simp [hdg]),if_neg (by simp),if_neg (by simp;omega),if_pos (by simp;exact he)] at h1 h2
 rw [e1 0,e1 1] at h1 h2
 split
 ·rename_i hs
  rw [if_pos hs] at h1 h2
  split
  ·rename_i hd
   rw [if_pos hd,rest_drop] at h1 h2
   refine ⟨n, ?_,by rw [←h1];show _+(k+2)=_+2+k;rw [show p+(k+2)=p+k+1+1 from rfl];omega,h2⟩
   rw [rest_length] at h0 ⊢
   omega
  ·rename_i hd
   rw [if_neg hd] at h1 h2
   exact ⟨by rw [←h1];simp,h2.symm⟩
 ·rename_i hs
  rw [if_neg hs] at h1 h2
  split
  ·rename_i hd
   rw [if_pos hd] at h1 h2
   exact ⟨n,h0,by rw [←h1];show _+(k+1)=_+1+k;rw [show p+(k+1)=p+k+1 from rfl];omega,h2⟩
  ·rename_i hd
   rw [if_neg hd] at h1 h2
   exact ⟨by rw [←h1];simp,h2.symm⟩
end
theorem nb_length {t:lx.Bs} {i:Nat} (h:lx.nb t i<256):i<t.length:=by
 unfold lx.nb at h
 by_cases hi:i<t.length
 ·exact hi
 ·rw [List.getElem?_eq_none (by omega)] at h;simp at h
theorem numScan_le (b16:Bool):∀(n:Nat) (int exp:Bool) (t:lx.Bs),(lx.numScan b16 n int exp t).1≤t.length:=by
 intro n
 induction n with
 | zero=>intro int exp t;simp [lx.numScan]
 | succ n ih =>
  intro int exp t
  cases t with
  | nil=>simp [lx.numScan]
  | cons c r =>
   unfold lx.numScan
   simp only [List.length_cons]
   split
   ·have:=ih int exp r;show _+1≤_;omega
   split
   ·have:=ih int exp r;show _+1≤_;omega
   split
   ·have:=ih false exp r;show _+1≤_;omega
   split
   ·split
    ·rename_i hs
     have h0:=nb_length (t:=r) (i:=0) (by omega)
     split
     ·have:=ih false true (r.drop 1);rw [List.length_drop] at this;show _+2≤_;omega
     ·simp
    ·split
     ·have:=ih false true r;show _+1≤_;omega
     ·simp
   ·simp
end Go.Proofs.YtaamolahbkgofaaGreatDoor.lex
namespace Go.Proofs.YtaamolahbkgofaaGreatDoor.lex
open Go.RowKit mem lines
/-- A function that reads one token comes to o. -/
def TokPost (B b f:Nat) (s:ByteArray) (x:St) (o:lx.Out) (w:World) (e:Ending) (w':World):Prop :=
 match o with
 | .tok k len text base dot=>Goes B b f s { x with kind:=⟨k.toArray⟩,at_:=x.at_+len,str:=⟨text.toArray⟩,base:=(base:Int),dot:=dot.getD x.dot } w e w'
 | .bad len=>∃x':St,(x'.kind=⟨lx.kBad.toArray⟩∧x'.at_=x.at_+len∧x'.coms=x.coms∧x'.sp=x.sp∧x'.raw=x.raw∧x'.pos=x.pos∧x'.fin=x.fin∧x'.last=x.last∧x'.dot=x.dot)∧Goes B b f s x' w e w'
 | .fault=>Faults b f w e w'
 | .crash=>True
end Go.Proofs.YtaamolahbkgofaaGreatDoor.lex
namespace Go.Proofs.YtaamolahbkgofaaGreatDoor.lx
/-- A comment: the blanks ahead of it, its own bytes, where it begins and ends. -/
structure Cm where
 sp:Bs
 raw:Bs
 pos:Nat
 fin:Nat
/-- A token with all that belongs to it. -/
structure Tk where
 kind:Bs
 coms:List Cm
 sp:Bs
 raw:Bs
 text:Bs
 base:Nat
 pos:Nat
 fin:Nat
/-- How many bytes comments take, with the blanks ahead of each. -/
def comsLen:List (Nat × Nat)→Nat
 | []=>0
 | c::r=>c.1+c.2+comsLen r
/-- The comments of a text that stands from place p on. -/
def comsOf:Nat→Bs→List (Nat × Nat)→List Cm
 | _,_,[]=>[]
 | p,t,c::r=>⟨t.take c.1,(t.drop c.1).take c.2,p+c.1,p+c.1+c.2⟩::comsOf (p+c.1+c.2) (t.drop (c.1+c.2)) r
/-- What reading one token with all ahead of it comes to. -/
inductive Got where
 | tok (t:Tk) (dot:Bool)
 | fault
 | crash
/-- One token's own part, of one or the other kind. -/
def own (np:Bool) (last:Bs) (dot:Bool) (t:Bs):Out:=if dot then field np last t else token np last t
/-- A token, its comments being cs, n bytes ahead of the blanks directly ahead of it, which are a bytes. -/
def gotOf (p:Nat) (t:Bs) (dot:Bool) (cs:List Cm) (n a:Nat):Out→Got
 | .tok k len text base d=>.tok ⟨k,cs,(t.drop n).take a,(t.drop (n+a)).take len,text,base,p+n+a,p+n+a+len⟩ (if dot then false else d.getD false)
 | .bad len=>.tok ⟨kBad,cs,(t.drop n).take a,(t.drop (n+a)).take len,[],0,p+n+a,p+n+a+len⟩ false
 | .fault=>.fault
 | .crash=>.crash
/-- One token of a text that stands from place p on; last: the kind of the one before; dot: a field's name may follow. -/
def nextTok (np:Bool) (p:Nat) (last:Bs) (dot:Bool) (t:Bs):Got :=
 match (ahead t).2 with
 | none=>if np then .tok ⟨kBad,comsOf p t (ahead t).1,[],[],[],0,p+comsLen (ahead t).1,p+comsLen (ahead t).1⟩ dot else .fault
 | some a=>gotOf p t dot (comsOf p t (ahead t).1) (comsLen (ahead t).1) a (own np last dot (t.drop (comsLen (ahead t).1+a)))
/-- How reading all tokens ends. -/
inductive End where
 | ok
 | fault
 | crash
/-- All tokens of a text that stands from place p on. -/
def toksN (np:Bool):Nat→Nat→Bs→Bool→Bs→List Tk × End
 | 0,_,_,_,_=>([],.crash)
 | n+1,p,last,dot,t=>match nextTok np p last dot t with
  | .fault=>([],.fault)
  | .crash=>([],.crash)
  | .tok k d=>if k.kind=kEof then ([k],.ok) else (k::(toksN np n k.fin k.kind d (t.drop (k.fin-p))).1,(toksN np n k.fin k.kind d (t.drop (k.fin-p))).2)
def toks (np:Bool) (t:Bs):List Tk × End:=toksN np (t.length+1) 0 [] false t
end Go.Proofs.YtaamolahbkgofaaGreatDoor.lx
namespace Go.Proofs.YtaamolahbkgofaaGreatDoor.lx
open lex
theorem blockEnd_size:∀(t:Bs) (n:Nat),blockEnd t=some n→1≤n∧n≤t.length
 | [],n,h=>by cases h
 | c::r,n,h=>by
  unfold blockEnd at h
  split at h
  ·rename_i hc
   have:1≤r.length:=by
    cases r with
    | nil=>exact absurd hc.2 (by decide)
    | cons d r=>simp
   cases h
   exact ⟨by omega,by simp;omega⟩
  ·cases hb:blockEnd r with
   | none=>rw [hb] at h;cases h
   | some k =>
    rw [hb] at h
    have:=blockEnd_size r k hb
    have e:k+1=n:=by simpa using h
    exact ⟨by omega,by simp;omega⟩
theorem lineEnd_pos (t:Bs) (h:t≠[]):1≤lineEnd t:=by
 cases t with
 | nil=>exact absurd rfl h
 | cons c r =>
  rw [lineEnd_cons]
  split <;> omega
theorem nb_nil (i:Nat):nb [] i=256:=rfl
theorem comment_size {t:Bs} {m:Nat} (h:comment t=.some m):1≤m∧m≤t.length:=by
 unfold comment at h
 split at h
 ·rename_i hc
  have ht:t≠[]:=by
   rintro rfl
   rcases hc with h1|⟨h1,_⟩ <;> exact absurd h1 (by decide)
  cases h
  exact ⟨lineEnd_pos t ht,lineEnd_le t⟩
 ·split at h
  ·split at h
   ·rename_i n hb
    cases h
    exact blockEnd_size t _ hb
   ·cases h
  ·cases h
theorem comment_nil:comment []=.no:=rfl
theorem aheadN_succ (n:Nat) (t:Bs):aheadN (n+1) t=match comment (t.drop (spaces t)) with
  | .no=>([],some (spaces t))
  | .open_=>([(spaces t,(t.drop (spaces t)).length)],none)
  | .some m=>((spaces t,m)::(aheadN n (t.drop (spaces t+m))).1,(aheadN n (t.drop (spaces t+m))).2):=rfl
theorem aheadN_more:∀(n m:Nat) (t:Bs),t.length≤n→n≤m→aheadN m t=aheadN n t
 | 0,m,t,h,_=>by
  have ht:t=[]:=List.length_eq_zero_iff.1 (by omega)
  subst ht
  cases m with
  | zero=>rfl
  | succ m =>
   rw [aheadN_succ]
   simp only [List.drop_nil,comment_nil]
   rfl
 | n+1,0,_,_,hm=>by omega
 | n+1,m+1,t,h,hm=>by
  rw [aheadN_succ,aheadN_succ]
  cases hc:comment (t.drop (spaces t)) with
  | no=>rfl
  | open_=>rfl
  | some k =>
   have:=comment_size hc
   simp only
   rw [aheadN_more n m (t.drop (spaces t+k)) (by simp;omega) (by omega)]
theorem ahead_no {t:Bs} (h:comment (t.drop (spaces t))=.no):ahead t=([],some (spaces t)):=by
 unfold ahead
 rw [←aheadN_more t.length (t.length+1) t (Nat.le_refl _) (by omega),aheadN_succ,h]
theorem ahead_open {t:Bs} (h:comment (t.drop (spaces t))=.open_):ahead t=([(spaces t,(t.drop (spaces t)).length)],none):=by
 unfold ahead
 rw [←aheadN_more t.length (t.length+1) t (Nat.le_refl _) (by omega),aheadN_succ,h]
theorem ahead_some {t:Bs} {m:Nat} (h:comment (t.drop (spaces t))=.some m):ahead t=((spaces t,m)::(ahead (t.drop (spaces t+m))).1,(ahead (t.drop (spaces t+m))).2):=by
 have hs:=comment_size h
 have e:aheadN t.length (t.drop (spaces t+m))=ahead (t.drop (spaces t+m)):=by
  unfold ahead
  exact aheadN_more _ _ _ (Nat.le_refl _) (by simp)
 have e1:ahead t=aheadN (t.length+1) t:=by
  unfold ahead
  rw [←aheadN_more t.length (t.length+1) t (Nat.le_refl _) (by omega)]
 rw [e1,aheadN_succ,h]
 simp only
 rw [e]
theorem comsLen_append:∀(a b:List (Nat × Nat)),comsLen (a++b)=comsLen a+comsLen b
 | [],b=>by simp [comsLen]
 | c::r,b=>by
  have:=comsLen_append r b
  simp only [List.cons_append,comsLen]
  omega
theorem comsOf_append:∀(p:Nat) (t:Bs) (a b:List (Nat × Nat)),comsOf p t (a++b)=comsOf p t a++comsOf (p+comsLen a) (t.drop (comsLen a)) b
 | p,t,[],b=>by simp [comsLen,comsOf]
 | p,t,c::r,b=>by
  have:=comsOf_append (p+c.1+c.2) (t.drop (c.1+c.2)) r b
  simp only [List.cons_append,comsOf,comsLen,this,List.drop_drop]
  rw [show p+c.1+c.2+comsLen r=p+(c.1+c.2+comsLen r) from by omega,show c.1+c.2+comsLen r=c.1+c.2+comsLen r from rfl]
theorem comsOf_length:∀(p:Nat) (t:Bs) (a:List (Nat × Nat)),(comsOf p t a).length=a.length
 | _,_,[]=>rfl
 | p,t,c::r=>by simp [comsOf,comsOf_length]
end Go.Proofs.YtaamolahbkgofaaGreatDoor.lx
