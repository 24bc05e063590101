/-
  Plain lemmas: how the statements of a text come about while its tokens are read one by one. The statements of a text in memory, as SplitRawStatements hands them back, and what holds while it reads the tokens. Regions that draw their order, read, and end in a call: the walk of the reading part with its state behind a structure (a guard that is decided lets the elaborator unfold wpStill to the call). SplitRawStatements: the statements of a text. Conditions: of each, in its statement.
-/
import Derived.Test.YtaamolahbkgofaaGreatDoorK08
import Derived.Test.YtaamolahbkgofaaGreatDoorK31
import Derived.StillTailTactics
import Derived.Test.YtaamolahbkgofaaGreatDoorK06
set_option linter.unusedVariables false
namespace Go.Proofs.YtaamolahbkgofaaGreatDoor.lx
open lex
/-- What is to come where a token of this kind, at this place, is the one that is read; f: where the statement began. -/
def cur (kind:Bs) (pos f:Nat) (r:List Tk):List (Nat × Nat) :=
 if kind=kEof then (if pos=f then [] else [(f,pos)])
 else if kind=[59] then (f,pos)::(match r with|[]=>[]|k2::_=>cuts k2.first r)
 else cuts f r
theorem cuts_cur (f:Nat) (k:Tk) (r:List Tk):cuts f (k::r)=cur k.kind k.pos f r:=by
 rw [cuts_cons]
 unfold cur
 by_cases h:k.kind=kEof
 ·rw [if_neg (by rw [h];decide),if_pos h,if_pos h]
 ·rw [if_neg h,if_neg h]
  cases r <;> rfl
theorem eof_at {np:Bool} {s:Bs} {p:Nat} {last:Bs} {dot d:Bool} {k:Tk} (hp:p≤s.length) (h:nextTok np p last dot (s.drop p)=.tok k d) (hk:k.kind=kEof):k.pos=s.length∧k.fin=s.length:=by
 have h1:=(next_at h).eof hk
 have h2:=(next_at h).pos
 rw [List.length_drop] at h1
 have h3:k.fin≤k.pos:=by
  unfold nextTok at h
  split at h
  ·split at h
   ·cases h
    exact absurd (show kBad=kEof from hk) (by decide)
   ·cases h
  ·rename_i a _
   have hg:=own_good np last dot ((s.drop p).drop (comsLen (ahead (s.drop p)).1+a))
   cases ho:own np last dot ((s.drop p).drop (comsLen (ahead (s.drop p)).1+a)) with
   | fault=>rw [ho] at h;cases h
   | crash=>rw [ho] at h;cases h
   | bad len=>rw [ho] at h;cases h;exact absurd (show kBad=kEof from hk) (by decide)
   | tok kk len text base d0 =>
    rw [ho] at h hg
    cases h
    have e:=hg.2.1 hk
    have e2:=hg.1
    rw [e] at e2
    show p+_+_+len≤p+_+_
    simp at e2
    omega
 omega
theorem next_nil (np:Bool) (p:Nat) (last:Bs) (dot:Bool):∃k d,nextTok np p last dot []=.tok k d∧k.kind=kEof∧k.pos=p∧k.fin=p:=by
 have ho:own np last dot []=.tok kEof 0 [] 0 none:=by
  unfold own field token
  cases dot <;> rfl
 have e:nextTok np p last dot []=gotOf p [] dot (comsOf p [] []) (comsLen []) 0 (.tok kEof 0 [] 0 none):=by
  unfold nextTok
  rw [show ahead []=([],some 0) from rfl]
  simp only [List.drop_nil]
  rw [ho]
 exact ⟨_,_,e.trans rfl,rfl,rfl,rfl⟩
/-- What is to come, whatever is the token that was read last. -/
structure Rest (s:Bs) (kind:Bs) (pos f at_:Nat) (dot:Bool) (en:End) (xs:List (Nat × Nat)):Prop where
 le:at_≤s.length
 low:f≤pos
 mid:pos≤at_
 eof:kind=kEof→pos=s.length∧at_=s.length∧en=.ok∧xs=(if pos=f then [] else [(f,pos)])
 more:kind≠kEof→∃n,(s.drop at_).length<n∧(toksN false n at_ kind dot (s.drop at_)).2=en∧xs=cur kind pos f (toksN false n at_ kind dot (s.drop at_)).1
theorem Rest.start (s:Bs):Rest s [] 0 0 0 false (toks false s).2 (cuts 0 (toks false s).1) :=
 ⟨Nat.zero_le _,Nat.le_refl _,Nat.le_refl _,fun h=>absurd h (by decide),fun _=>⟨s.length+1,by simp,rfl,rfl⟩⟩
theorem first_le {p:Nat} {last:Bs} {dot d:Bool} {t:Bs} {k:Tk} (h:nextTok false p last dot t=.tok k d):p≤k.first∧k.first≤k.pos:=by
 obtain ⟨e1,k',e2,_,e4,_⟩:=next_skip (last':=last) rfl h
 have:=(next_at e2).le
 omega
/-- The token is a semicolon. -/
theorem Rest.semi {s:Bs} {pos f at_:Nat} {dot d:Bool} {en:End} {xs:List (Nat × Nat)} {k:Tk} (h:Rest s [59] pos f at_ dot en xs) (hk:nextTok false at_ [59] dot (s.drop at_)=.tok k d):∃ys,xs=(f,pos)::ys∧Rest s k.kind k.pos k.first k.fin d en ys:=by
 obtain ⟨n,hn,h1,h2⟩:=h.more (by decide)
 have ha:=next_at hk
 have hok:=next_ok h.le hk
 have hfl:=first_le hk
 by_cases he:k.kind=kEof
 ·have e1:=toks_eof hn hk he
  rw [e1] at h1 h2
  have e2:=eof_at h.le hk he
  refine ⟨cur k.kind k.pos k.first [], ?_,hok.le,hfl.2,ha.pos,fun _=>⟨e2.1,e2.2,h1.symm, ?_⟩,fun c=>absurd he c⟩
  ·rw [h2]
   show (f,pos)::cuts k.first [k]=_
   rw [cuts_cur]
  ·unfold cur
   rw [if_pos he]
 ·obtain ⟨m,hm,e1⟩:=toks_tok hn hk he
  rw [e1] at h1 h2
  have e3:(s.drop at_).drop (k.fin-at_)=s.drop k.fin:=by
   rw [List.drop_drop]
   congr 1
   have:=ha.pos
   have:=ha.le
   omega
  rw [e3] at hm h1 h2
  refine ⟨cur k.kind k.pos k.first (toksN false m k.fin k.kind d (s.drop k.fin)).1, ?_,hok.le,hfl.2,ha.pos,fun c=>absurd c he,fun _=>⟨m,hm,h1,rfl⟩⟩
  rw [h2]
  show (f,pos)::cuts k.first (k::_)=_
  rw [cuts_cur]
/-- The token is none, and the next one is the end. -/
theorem Rest.last {s kind:Bs} {pos f at_:Nat} {dot d:Bool} {en:End} {xs:List (Nat × Nat)} {k:Tk} (h:Rest s kind pos f at_ dot en xs) (hs:kind≠[59]) (hk:nextTok false at_ kind dot (s.drop at_)=.tok k d) (he:k.kind=kEof):en=.ok∧xs=(if k.pos=f then [] else [(f,k.pos)])∧f≤k.pos∧k.pos≤s.length:=by
 have e2:=eof_at h.le hk he
 have h3:=h.low
 have h4:=h.mid
 have h5:=h.le
 by_cases hc:kind=kEof
 ·obtain ⟨a1,a2,a3,a4⟩:=h.eof hc
  refine ⟨a3, ?_,by omega,by omega⟩
  rw [a4,e2.1,a1]
 ·obtain ⟨n,hn,h1,h2⟩:=h.more hc
  rw [toks_eof hn hk he] at h1 h2
  refine ⟨h1.symm, ?_,by omega,by omega⟩
  rw [h2]
  unfold cur
  rw [if_neg hc,if_neg hs]
  show cuts f [k]=_
  rw [cuts_cur]
  unfold cur
  rw [if_pos he]
/-- The token is none, and the next one is not the end. -/
theorem Rest.go {s kind:Bs} {pos f at_:Nat} {dot d:Bool} {en:End} {xs:List (Nat × Nat)} {k:Tk} (h:Rest s kind pos f at_ dot en xs) (hs:kind≠[59]) (hk:nextTok false at_ kind dot (s.drop at_)=.tok k d) (he:k.kind≠kEof):Rest s k.kind k.pos f k.fin d en xs∧at_<k.fin:=by
 have ha:=next_at hk
 have hok:=next_ok h.le hk
 have hfl:=first_le hk
 have h3:=h.low
 have h4:=h.mid
 by_cases hc:kind=kEof
 ·exfalso
  obtain ⟨a1,a2,a3,a4⟩:=h.eof hc
  have hm:=ha.more he
  have:=hok.le
  omega
 ·obtain ⟨n,hn,h1,h2⟩:=h.more hc
  obtain ⟨m,hm,e1⟩:=toks_tok hn hk he
  rw [e1] at h1 h2
  have e3:(s.drop at_).drop (k.fin-at_)=s.drop k.fin:=by
   rw [List.drop_drop]
   congr 1
   have:=ha.pos
   have:=ha.le
   omega
  rw [e3] at hm h1 h2
  refine ⟨⟨hok.le,by omega,ha.pos,fun c=>absurd c he,fun _=>⟨m,hm,h1, ?_⟩⟩,ha.more he⟩
  rw [h2]
  unfold cur
  rw [if_neg hc,if_neg hs]
  show cuts f (k::_)=_
  rw [cuts_cur]
  rfl
theorem Rest.fault {s kind:Bs} {pos f at_:Nat} {dot:Bool} {en:End} {xs:List (Nat × Nat)} (h:Rest s kind pos f at_ dot en xs) (hk:nextTok false at_ kind dot (s.drop at_)=.fault):en=.fault:=by
 by_cases hc:kind=kEof
 ·exfalso
  obtain ⟨a1,a2,a3,a4⟩:=h.eof hc
  rw [List.drop_eq_nil_of_le (by omega)] at hk
  obtain ⟨k,d,e,_⟩:=next_nil false at_ kind dot
  rw [e] at hk
  cases hk
 ·obtain ⟨n,hn,h1,h2⟩:=h.more hc
  rw [toks_fault hn hk] at h1
  exact h1.symm
theorem Rest.nocrash {s kind:Bs} {pos f at_:Nat} {dot:Bool} {en:End} {xs:List (Nat × Nat)} (h:Rest s kind pos f at_ dot en xs) (hcr:en≠.crash):nextTok false at_ kind dot (s.drop at_)≠.crash:=by
 intro hk
 by_cases hc:kind=kEof
 ·obtain ⟨a1,a2,a3,a4⟩:=h.eof hc
  rw [List.drop_eq_nil_of_le (by omega)] at hk
  obtain ⟨k,d,e,_⟩:=next_nil false at_ kind dot
  rw [e] at hk
  cases hk
 ·obtain ⟨n,hn,h1,h2⟩:=h.more hc
  rw [toks_crash hn hk] at h1
  exact hcr h1.symm
theorem cuts_length:∀(l:List Tk) (f:Nat),(cuts f l).length≤l.length
 | [],f=>by simp [cuts]
 | k::r,f=>by
  rw [cuts_cons]
  split
  ·cases r with
   | nil=>simp
   | cons k2 r2 =>
    have:=cuts_length (k2::r2) k2.first
    simp at this ⊢
    omega
  ·split
   ·split <;> simp
   ·have:=cuts_length r f
    simp
    omega
theorem raws_length (l:List Tk):(raws l).length≤l.length+1:=by
 have:=cuts_length l 0
 unfold raws
 cases h:cuts 0 l with
 | nil=>simp
 | cons x r =>
  rw [h] at this
  simp at this ⊢
  omega
end Go.Proofs.YtaamolahbkgofaaGreatDoor.lx
set_option linter.unusedVariables false
namespace Go.Proofs.YtaamolahbkgofaaGreatDoor.lex
open Go.RowKit mem lines plain
/-- A statement of the list: the block that it lies in, where it begins and ends. -/
structure RI where
 p:Nat
 x:Nat
 y:Nat
def RI.cells (r:RI):List Value:=[.pointer (some ⟨r.p,0,none⟩)]
def RI.at (r:RI):Nat × Nat:=(r.x,r.y)
def RawAt (W:World) (s:ByteArray) (r:RI):Prop:=W.heap[r.p]?=some (.cells #[.int .i64 (r.x:Int),.int .i64 (r.y:Int),.string (s.extract r.x r.y)] 79 (0,0))
structure RawsP (W:World) (base:Nat) (v:Value) (s:ByteArray) (it:List RI):Prop where
 row:W.ownsRow base 77 1 v it.length (it.flatMap RI.cells)
 at_:∀r∈it,base≤r.p∧RawAt W s r
theorem RawsP.nil (W:World) (base:Nat) (s:ByteArray):RawsP W base (.slice none 0 0) s []:=⟨World.ownsRow_nil _ _ _ _,fun _ h=>by cases h⟩
theorem RawsP.kept {W W':World} {b base:Nat} {v:Value} {s:ByteArray} {it:List RI} (h:RawsP W base v s it) (hb:b<base) (hg:W.grownBy W' (some b)):RawsP W' base v s it :=
 ⟨row_kept h.row hb hg,fun r hr=>by
  have h1:=h.at_ r hr
  exact ⟨h1.1,(hg.block r.p (lt_of_heap h1.2) (by simp;omega)).trans h1.2⟩⟩
theorem RawsP.below {W W':World} {base:Nat} {v:Value} {s:ByteArray} {it:List RI} (h:RawsP W base v s it) (hb:Below W.heap.size W W'):RawsP W' base v s it :=
 ⟨row_below h.row hb,fun r hr=>⟨(h.at_ r hr).1,(hb.block r.p (lt_of_heap (h.at_ r hr).2)).trans (h.at_ r hr).2⟩⟩
theorem RawsP.add {W W':World} {base:Nat} {v v':Value} {s:ByteArray} {it:List RI} {r:RI} (h:RawsP W base v s it) (hr:base≤r.p∧RawAt W s r) (hrow:W'.ownsRow base 77 1 v' (it.length+1) (it.flatMap RI.cells++r.cells)) (hg:W.grownBy W' v.ownBlock):RawsP W' base v' s (it++[r]):=by
 refine ⟨by simpa [List.flatMap_append] using hrow,fun y hy=>?_⟩
 have hy1:base≤y.p∧RawAt W s y:=by
  rcases List.mem_append.1 hy with hy|hy
  ·exact h.at_ y hy
  ·rw [List.mem_singleton.1 hy]
   exact hr
 refine ⟨hy1.1,(hg.block y.p (lt_of_heap hy1.2) ?_).trans hy1.2⟩
 intro e
 rcases h.row.2 with ⟨h2,_⟩|⟨g1,c1,cur1,h2,_,hg1,_⟩
 ·rw [h2] at e
  cases e
 ·rw [h2] at e
  have e2:y.p=g1:=by simpa [Value.ownBlock] using e
  have e3:=hy1.2
  rw [RawAt,e2,hg1] at e3
  cases e3
theorem rawInfo:(Tryz.prog.info? 77).map (fun i=>(i.zero,i.size,i.bytes))=some (some (.pointer none),1,8):=by kernel_rfl
/-- What holds at the beginning of a round of SplitRawStatements' loop. -/
structure SI (w:World) (s:ByteArray) (x:St) (f:Nat) (v:Value) (it:List RI) (W:World):Prop where
 lex:LexS W w.heap.size (w.heap.size+1) w.heap.size s x
 below:Below w.heap.size w W
 raws:RawsP W (w.heap.size+2) v s it
 size:w.heap.size+2≤W.heap.size
 toks:∃xs,lx.Rest s.data.toList x.kind.data.toList x.pos f x.at_ x.dot (lx.toks false s.data.toList).2 xs∧lx.cuts 0 (lx.toks false s.data.toList).1=it.map RI.at++xs
 len:it.length+(if x.kind.data.toList=[59] then 1 else 0)≤x.at_
/-- How far the reading is: twice the bytes that are left, and one more at a semicolon. -/
def splitLeft (s:ByteArray) (W:World) (b:Nat):Nat :=
 2*(s.size-placeIn W b)+(match W.cell? ⟨b,1,none⟩ with|some (.string k)=>if k.data.toList=[59] then 1 else 0|_=>0)
theorem LexS.left {W:World} {B b f:Nat} {s:ByteArray} {x:St} (h:LexS W B b f s x):splitLeft s W b=2*(s.size-x.at_)+(if x.kind.data.toList=[59] then 1 else 0):=by
 have h1:W.cell? ⟨b,1,none⟩=some (.string x.kind):=h.cell 1
 unfold splitLeft
 rw [h.place,h1]
theorem new_lexer (s p:ByteArray) (w:World) (hs:s.size≤20000) (hT:TabsAt w) :
  LexS ((w.alloc (.cells #[.string p,.string s,.slice none 0 0] 68)).alloc (.cells #[.pointer (some ⟨w.heap.size,0,none⟩),.string ⟨#[]⟩,.slice none 0 0,.string ⟨#[]⟩,.string ⟨#[]⟩,.string ⟨#[]⟩,.int .i64 0,.int .i64 0,.int .i64 0,.int .i64 0,.string ⟨#[]⟩,.bool false] 65)) w.heap.size (w.heap.size+1) w.heap.size s St.new ∧
  Below w.heap.size w ((w.alloc (.cells #[.string p,.string s,.slice none 0 0] 68)).alloc (.cells #[.pointer (some ⟨w.heap.size,0,none⟩),.string ⟨#[]⟩,.slice none 0 0,.string ⟨#[]⟩,.string ⟨#[]⟩,.string ⟨#[]⟩,.int .i64 0,.int .i64 0,.int .i64 0,.int .i64 0,.string ⟨#[]⟩,.bool false] 65)):=by
 have hb:Below w.heap.size w ((w.alloc (.cells #[.string p,.string s,.slice none 0 0] 68)).alloc (.cells #[.pointer (some ⟨w.heap.size,0,none⟩),.string ⟨#[]⟩,.slice none 0 0,.string ⟨#[]⟩,.string ⟨#[]⟩,.string ⟨#[]⟩,.int .i64 0,.int .i64 0,.int .i64 0,.int .i64 0,.string ⟨#[]⟩,.bool false] 65)):=((Below.refl _ _).alloc (Nat.le_refl _) _).alloc (by simp) _
 have h1:=heap_alloc_new (w.alloc (.cells #[.string p,.string s,.slice none 0 0] 68)) (.cells #[.pointer (some ⟨w.heap.size,0,none⟩),.string ⟨#[]⟩,.slice none 0 0,.string ⟨#[]⟩,.string ⟨#[]⟩,.string ⟨#[]⟩,.int .i64 0,.int .i64 0,.int .i64 0,.int .i64 0,.string ⟨#[]⟩,.bool false] 65)
 rw [show (w.alloc (.cells #[.string p,.string s,.slice none 0 0] 68)).heap.size=w.heap.size+1 from by simp] at h1
 refine ⟨⟨⟨w,rfl,hT,hb⟩,by omega,Nat.le_refl _,by omega,h1,⟨p, ?_⟩,hs,Nat.zero_le _⟩,hb⟩
 exact (heap_alloc_old _ _ (by simp)).trans (heap_alloc_new w _)
theorem SI.start {w:World} {s p:ByteArray} (hs:s.size≤20000) (hT:TabsAt w):SI w s St.new 0 (.slice none 0 0) [] ((w.alloc (.cells #[.string p,.string s,.slice none 0 0] 68)).alloc (.cells #[.pointer (some ⟨w.heap.size,0,none⟩),.string ⟨#[]⟩,.slice none 0 0,.string ⟨#[]⟩,.string ⟨#[]⟩,.string ⟨#[]⟩,.int .i64 0,.int .i64 0,.int .i64 0,.int .i64 0,.string ⟨#[]⟩,.bool false] 65)):=by
 obtain ⟨h1,h2⟩:=new_lexer s p w hs hT
 exact ⟨h1,h2,RawsP.nil _ _ _,by simp,⟨_,lx.Rest.start _,rfl⟩,Nat.le_refl _⟩
/-- A statement is appended; W3: with the statement laid, W4: with the list grown. -/
theorem SI.put {w W W3 W4:World} {s:ByteArray} {x:St} {f y:Nat} {v v':Value} {it:List RI} (h:SI w s x f v it W) (hb:Below W.heap.size W W3) (hr:W.heap.size≤y∧RawAt W3 s ⟨y,f,x.pos⟩) (hrow:W4.ownsRow (w.heap.size+2) 77 1 v' (it.length+1) (it.flatMap RI.cells++[.pointer (some ⟨y,0,none⟩)])) (hg:W3.grownBy W4 v.ownBlock) :
  LexS W4 w.heap.size (w.heap.size+1) w.heap.size s x∧Below w.heap.size w W4∧RawsP W4 (w.heap.size+2) v' s (it++[⟨y,f,x.pos⟩])∧w.heap.size+2≤W4.heap.size:=by
 have h1:=h.size
 have h2:=hb.size
 have h3:=hg.size
 have hr0:∀g,v.ownBlock=some g→w.heap.size+2≤g:=fun g hg=>(h.raws.row.lt g hg).1
 have hL:=lex_grow2 (h.lex.below hb) hg hr0 (by omega) (by omega) (by omega)
 refine ⟨hL,⟨hg.os.trans (hb.os.trans h.below.os),hg.tape.trans (hb.tape.trans h.below.tape),hg.output.trans (hb.output.trans h.below.output),by omega,fun i hi=>?_⟩,(h.raws.below hb).add ⟨by show _≤y;omega,hr.2⟩ hrow hg,by omega⟩
 rw [hg.block i (by omega) (fun e=>by have:=hr0 i e.symm;omega),hb.block i (by omega),h.below.block i hi]
/-- The token is a semicolon: the statement is appended, the next token read. -/
theorem SI.semi {w W W4 W5:World} {s:ByteArray} {x z:St} {f y:Nat} {v v':Value} {it:List RI} {k:lx.Tk} {d:Bool} (h:SI w s x f v it W) (hk:x.kind.data.toList=[59]) (ho:lx.nextTok false x.at_ x.kind.data.toList x.dot (rest s x.at_)=.tok k d)
  (h4:LexS W4 w.heap.size (w.heap.size+1) w.heap.size s x∧Below w.heap.size w W4∧RawsP W4 (w.heap.size+2) v' s (it++[⟨y,f,x.pos⟩])∧w.heap.size+2≤W4.heap.size)
  (hl:LexS W5 w.heap.size (w.heap.size+1) w.heap.size s z) (hg:W4.grownBy W5 (some (w.heap.size+1))) (hB:Bears W4 W5 z k) (hd:z.dot=d) :
  SI w s z k.first v' (it++[⟨y,f,x.pos⟩]) W5∧splitLeft s W5 (w.heap.size+1)<splitLeft s W (w.heap.size+1):=by
 obtain ⟨_,hb4,hr4,hs4⟩:=h4
 obtain ⟨xs,h1,h2⟩:=h.toks
 rw [hk] at h1 ho
 obtain ⟨ys,e1,e2⟩:=h1.semi ho
 have hz1:z.kind.data.toList=k.kind:=by rw [hB.kind]
 have hz2:=hB.pos
 have hz3:=hB.at_
 have hlen:=h.len
 rw [if_pos hk] at hlen
 have ha:=lx.next_at ho
 have hle:x.at_≤k.fin:=by have:=ha.pos;have:=ha.le;omega
 have hx:=h.lex.le
 have hz:=hl.le
 have hgs:=hg.size
 refine ⟨⟨hl,⟨hg.os.trans hb4.os,hg.tape.trans hb4.tape,hg.output.trans hb4.output,by have:=hb4.size;omega,fun i hi=>?_⟩,hr4.kept (by omega) hg,by omega,⟨ys, ?_, ?_⟩, ?_⟩, ?_⟩
 ·exact (hg.block i (by omega) (by simp;omega)).trans (hb4.block i hi)
 ·rw [hz1,hz2,hz3,hd]
  exact e2
 ·rw [h2,e1]
  simp [RI.at]
 ·rw [List.length_append,hz1,hz3]
  by_cases he:k.kind=lx.kEof
  ·rw [if_neg (by rw [he];decide)]
   simp
   omega
  ·have hm:=ha.more he
   split <;> simp <;> omega
 ·rw [hl.left,h.lex.left,if_pos hk,hz1,hz3]
  by_cases he:k.kind=lx.kEof
  ·rw [if_neg (by rw [he];decide)]
   omega
  ·have hm:=ha.more he
   split <;> omega
/-- The token is none, the next one is not the end. -/
theorem SI.go {w W W5:World} {s:ByteArray} {x z:St} {f:Nat} {v:Value} {it:List RI} {k:lx.Tk} {d:Bool} (h:SI w s x f v it W) (hk:x.kind.data.toList≠[59]) (ho:lx.nextTok false x.at_ x.kind.data.toList x.dot (rest s x.at_)=.tok k d) (he:k.kind≠lx.kEof)
  (hl:LexS W5 w.heap.size (w.heap.size+1) w.heap.size s z) (hg:W.grownBy W5 (some (w.heap.size+1))) (hB:Bears W W5 z k) (hd:z.dot=d) :
  SI w s z f v it W5∧splitLeft s W5 (w.heap.size+1)<splitLeft s W (w.heap.size+1):=by
 obtain ⟨xs,h1,h2⟩:=h.toks
 obtain ⟨e1,e2⟩:=h1.go hk ho he
 have hz1:z.kind.data.toList=k.kind:=by rw [hB.kind]
 have hz2:=hB.pos
 have hz3:=hB.at_
 have hlen:=h.len
 rw [if_neg hk] at hlen
 have hb:=h.below
 have hz:=hl.le
 have hgs:=hg.size
 have hsz:=h.size
 refine ⟨⟨hl,⟨hg.os.trans hb.os,hg.tape.trans hb.tape,hg.output.trans hb.output,by omega,fun i hi=>?_⟩,h.raws.kept (by omega) hg,by omega,⟨xs, ?_,h2⟩, ?_⟩, ?_⟩
 ·exact (hg.block i (by omega) (by simp;omega)).trans (hb.block i hi)
 ·rw [hz1,hz2,hz3,hd]
  exact e1
 ·rw [hz1,hz3]
  split <;> omega
 ·rw [hl.left,h.lex.left,if_neg hk,hz1,hz3]
  have:=h.lex.le
  split <;> omega
/-- The token is none, the next one is the end. -/
theorem SI.end {w W:World} {s:ByteArray} {x:St} {f:Nat} {v:Value} {it:List RI} {k:lx.Tk} {d:Bool} (h:SI w s x f v it W) (hk:x.kind.data.toList≠[59]) (ho:lx.nextTok false x.at_ x.kind.data.toList x.dot (rest s x.at_)=.tok k d) (he:k.kind=lx.kEof) :
  (lx.toks false s.data.toList).2=.ok∧f≤k.pos∧k.pos≤s.size∧lx.cuts 0 (lx.toks false s.data.toList).1=it.map RI.at++(if k.pos=f then [] else [(f,k.pos)]):=by
 obtain ⟨xs,h1,h2⟩:=h.toks
 obtain ⟨e1,e2,e3,e4⟩:=h1.last hk ho he
 exact ⟨e1,e3,by simpa using e4,by rw [h2,e2]⟩
theorem SI.fault {w W:World} {s:ByteArray} {x:St} {f:Nat} {v:Value} {it:List RI} (h:SI w s x f v it W) (ho:lx.nextTok false x.at_ x.kind.data.toList x.dot (rest s x.at_)=.fault):(lx.toks false s.data.toList).2=.fault:=by
 obtain ⟨xs,h1,h2⟩:=h.toks
 exact h1.fault ho
theorem SI.nocrash {w W:World} {s:ByteArray} {x:St} {f:Nat} {v:Value} {it:List RI} (h:SI w s x f v it W) (hcr:(lx.toks false s.data.toList).2≠.crash):lx.nextTok false x.at_ x.kind.data.toList x.dot (rest s x.at_)≠.crash:=by
 obtain ⟨xs,h1,h2⟩:=h.toks
 exact h1.nocrash hcr
/-- The statements as they are read from the list. -/
def RawsV (W:World) (v:Value) (s:ByteArray) (it:List RI):Prop :=
 ∃g cap,v=.slice (some ⟨g,0,none⟩) it.length cap∧g<W.heap.size∧∀i (h:i<it.length),W.cell? ⟨g,i,none⟩=some (.pointer (some ⟨it[i].p,0,none⟩))∧RawAt W s it[i]
theorem RawsP.view {W:World} {base:Nat} {v:Value} {s:ByteArray} {it:List RI} (h:RawsP W base v s it) (h0:0<it.length):RawsV W v s it:=by
 obtain ⟨g,cap,rfl,h1,h2⟩:=h.row.form h0
 refine ⟨g,cap,rfl,h2,fun i hi=>⟨?_,(h.at_ _ (List.getElem_mem hi)).2⟩⟩
 have h3:=own_cell_at h.row i 0 (by omega) hi
 rw [flat_cells RI.cells 1 (fun _=>rfl) it i 0 hi (by omega)] at h3
 simpa [RI.cells] using h3
/-- What the list is at the end: the statements, or one empty one. -/
def SplitP (s:ByteArray) (w:World) (e:Ending) (w':World):Prop :=
 match (lx.toks false s.data.toList).2 with
 | .ok=>∃v it,e=.returned (.tuple #[v,.nilIface])∧RawsV w' v s it∧it.map RI.at=lx.raws (lx.toks false s.data.toList).1∧Below w.heap.size w w'
 | .fault=>∃m,e=.returned (.tuple #[.slice none 0 0,.iface 80 (.pointer (some ⟨m,0,none⟩))])∧Below w.heap.size w w'
 | .crash=>True
theorem raws_of {l:List lx.Tk} {xs:List (Nat × Nat)} (h:lx.cuts 0 l=xs) (h0:xs≠[]):lx.raws l=xs:=by
 unfold lx.raws
 rw [h]
 cases xs with
 | nil=>exact absurd rfl h0
 | cons x r=>rfl
theorem raws_none {l:List lx.Tk} (h:lx.cuts 0 l=[]):lx.raws l=[(0,0)]:=by
 unfold lx.raws
 rw [h]
theorem below_g2 {w W W5:World} {n b f:Nat} (h:Below n w W) (hg:Grown2 b f W W5) (hb:n≤b) (hf:n≤f) (hn:n≤W.heap.size):Below n w W5 :=
 ⟨hg.os.trans h.os,hg.tape.trans h.tape,hg.output.trans h.output,Nat.le_trans h.size hg.size,fun i hi=>(hg.block i (by omega) (by omega) (by omega)).trans (h.block i hi)⟩
theorem below_g1 {w W W5:World} {n b:Nat} (h:Below n w W) (hg:W.grownBy W5 (some b)) (hb:n≤b) (hn:n≤W.heap.size):Below n w W5 :=
 ⟨hg.os.trans h.os,hg.tape.trans h.tape,hg.output.trans h.output,Nat.le_trans h.size hg.size,fun i hi=>(hg.block i (by omega) (by simp;omega)).trans (h.block i hi)⟩
theorem coms_view {W:World} {base:Nat} {v:Value} {cs:List lx.Cm} (h:W.ownsRow base 88 4 v cs.length (cs.flatMap comV)) :
  (cs=[]∧∃b cap,v=.slice b 0 cap)∨∃g cap c r,cs=c::r∧v=.slice (some ⟨g,0,none⟩) (r.length+1) cap∧W.cell? ⟨g,2,none⟩=some (.int .i64 (c.pos:Int)):=by
 cases cs with
 | nil =>
  left
  refine ⟨rfl, ?_⟩
  rcases h.2 with ⟨h2,_⟩|⟨g,cap,cur,h3,h4⟩
  ·exact ⟨_,_,h2⟩
  ·exact ⟨_,_,h3⟩
 | cons c r =>
  right
  obtain ⟨g,cap,rfl,h1,h2⟩:=h.form (by simp)
  refine ⟨g,cap,c,r,rfl,rfl, ?_⟩
  have h3:=own_cell h 0 2 (by omega) (by simp)
  rw [com_cells (c::r) 0 2 (by simp) (by omega)] at h3
  simpa [comV] using h3
theorem extract_zero (s:ByteArray):s.extract 0 0=⟨#[]⟩:=bytes_eq.2 (by rw [extract_list];rfl)
theorem one_empty (W:World) (s:ByteArray) (cap:Nat):RawsV ((W.alloc (.cells #[.int .i64 0,.int .i64 0,.string ⟨#[]⟩] 79)).alloc (.cells #[.pointer (some ⟨W.heap.size,0,none⟩)] 77)) (.slice (some ⟨W.heap.size+1,0,none⟩) 1 cap) s [⟨W.heap.size,0,0⟩]:=by
 have h1:=heap_alloc_new (W.alloc (.cells #[.int .i64 0,.int .i64 0,.string ⟨#[]⟩] 79)) (.cells #[.pointer (some ⟨W.heap.size,0,none⟩)] 77)
 rw [show (W.alloc (.cells #[.int .i64 0,.int .i64 0,.string ⟨#[]⟩] 79)).heap.size=W.heap.size+1 from by simp] at h1
 refine ⟨W.heap.size+1,cap,rfl,by simp,fun i hi=>?_⟩
 have hi0:i=0:=by simpa using hi
 subst hi0
 refine ⟨cells_of_heap h1 0, ?_⟩
 show _=some (Obj.cells #[.int .i64 0,.int .i64 0,.string (s.extract 0 0)] 79 (0,0))
 rw [extract_zero]
 exact (heap_alloc_old _ _ (by simp)).trans (heap_alloc_new W _)
theorem below_own {w W W':World} {n base:Nat} {v:Value} {s:ByteArray} {it:List RI} (h:Below n w W) (hr:RawsP W base v s it) (hg:W.grownBy W' v.ownBlock) (hb:n≤base) (hn:n≤W.heap.size):Below n w W' :=
 ⟨hg.os.trans h.os,hg.tape.trans h.tape,hg.output.trans h.output,Nat.le_trans h.size hg.size,fun i hi=>(hg.block i (by omega) (fun e=>by have:=(hr.row.lt i e.symm).1;omega)).trans (h.block i hi)⟩
theorem nil_form {W:World} {base e size n:Nat} {v:Value} {xs:List Value} (h:W.ownsRow base e size v n xs) (hn:n=0):∃b c,v=.slice b 0 c:=by
 subst hn
 rcases h.2 with ⟨h2,_⟩|⟨g,cap,cur,h3,h4⟩
 ·exact ⟨_,_,h2⟩
 ·exact ⟨_,_,h3⟩
theorem first_nil {k:lx.Tk} (h:k.coms=[]):k.first=k.pos:=by unfold lx.Tk.first;rw [h]
theorem first_cons {k:lx.Tk} {c:lx.Cm} {r:List lx.Cm} (h:k.coms=c::r):k.first=c.pos:=by unfold lx.Tk.first;rw [h]
theorem semi_of {K:ByteArray} (h:(K.toList==[59])=true):K.data.toList=[59]:=by rw [←Lib.toList_data];simpa using h
theorem no_semi {K:ByteArray} (h:(K.toList==[59])=false):K.data.toList≠[59]:=by rw [←Lib.toList_data];simpa using h
end Go.Proofs.YtaamolahbkgofaaGreatDoor.lex
set_option linter.unusedVariables false
namespace Go.Proofs.YtaamolahbkgofaaGreatDoor.lex
open Go.RowKit mem lines plain
structure StM (P:Program) (ops:Array Oper) (w:World) (Q:Act→Prop) (l:List Oper) (a:Act):Prop where
 out:wpStill P ops w Q l a
section
variable {P:Program} {ops:Array Oper} {w:World} {Q:Act→Prop}
theorem StM.step {a:Act} {o:Oper} {rest:List Oper} (h:∀K:Act→Prop,(∀a,StM P ops w Q rest a→K a)→if Region.wanted o (yielded ops a.tmps) then o.still P a w K else K (a.put o.dst undef)):StM P ops w Q (o::rest) a :=
 ⟨wpStill_step fun K hK=>h K fun a ha=>hK a ha.out⟩
theorem StM.nil {a:Act} (h:Q a):StM P ops w Q [] a:=⟨wpStill_nil h⟩
end
theorem region_StM {P:Program} {id:Nat} {Q:Exit→Act→World→Prop} {a:Act} {w:World} {l:List Oper} (n:Nat) (hm:P.follows .mixedOrders=true) (hB:Region.lexTailB .any l.toArray n=true)
  (h:StM P l.toArray { w with drawn:=w.drawn+1 } (fun a'=>wpList P l.toArray Q (l.drop n) a' { w with drawn:=w.drawn+1 }) (l.take n) a):(Code.region id l.toArray true).wp P Q a w :=
 wp_region_still_tail n hm hB h.out
end Go.Proofs.YtaamolahbkgofaaGreatDoor.lex
set_option linter.unusedVariables false
set_option linter.unusedSimpArgs false
namespace Go.Proofs.YtaamolahbkgofaaGreatDoor.lex
open Go.RowKit mem lines plain
set_option maxHeartbeats 4000000 in
set_option maxRecDepth 100000 in
theorem rawStatements_any {w:World} {s:ByteArray} (hs:s.size≤20000) (hT:Lib0 w) (hcr:(lx.toks false s.data.toList).2≠.crash) :
  Calls Tryz.prog 39 #[.string ⟨#[]⟩,.string s] w (SplitP s w):=by
 have HT0:=Lib.hid (SI.start (p:=⟨#[]⟩) hs hT.tabs)
 clear hT
 go_enter Tryz.func39,Tryz.ntmps39
 go_wp2_with fail
 go_loopw [7,8] (fun v f wr=>∃x n it,f=.int .i64 ((n:Nat):Int)∧Hid (SI w s x n v it wr)) (fun _ _ wr=>splitLeft s wr (w.heap.size+1))
 case atStart=>exact ⟨St.new,0,[],rfl,HT0.out⟩
 case round =>
  rename World=>wo
  obtain ⟨x,n,it,rfl,HI⟩:=hrel
  obtain ⟨o,HO⟩:∃o,Hid (lx.nextTok false x.at_ x.kind.data.toList x.dot (rest s x.at_)=o):=⟨_,rfl⟩
  have q1:wo.cell? ⟨w.heap.size+1,1,none⟩=some (.string x.kind):=HI.out.lex.cell 1
  have q7:wo.cell? ⟨w.heap.size+1,7,none⟩=some (.int .i64 (x.pos:Int)):=HI.out.lex.cell 7
  have hlow:n≤x.pos:=by obtain ⟨xs,h1,_⟩:=HI.out.toks;exact h1.low
  have hmid:x.pos≤s.size:=by obtain ⟨xs,h1,_⟩:=HI.out.toks;have:=h1.mid;have:=HI.out.lex.le;omega
  have z1:(n:Int)≤(x.pos:Int):=by omega
  have z2:(x.pos:Int)≤(s.size:Int):=by omega
  cases hk:(x.kind.toList==[59]) with
  | true =>
   go_wp2_with fail
   clear q1
   obtain ⟨i0,hi0,hz0,hz1,hz2⟩:=info_parts rawInfo
   have hitn:it.length≤20000:=by have h1:=HI.out.len;have h2:=HI.out.lex.le;omega
   have hA:∀oa ob,(({ wo with drawn:=wo.drawn+1 }.alloc oa).alloc ob).heap[wo.heap.size+1]?=some ob:=fun oa ob=>by
    have:=heap_alloc_new ({ wo with drawn:=wo.drawn+1 }.alloc oa) ob
    simpa using this
   have hA0:∀oa ob,(({ wo with drawn:=wo.drawn+1 }.alloc oa).alloc ob).heap[wo.heap.size]?=some oa:=fun oa ob=>by
    have h1:=heap_alloc_new { wo with drawn:=wo.drawn+1 } oa
    have h2:=heap_alloc_old ({ wo with drawn:=wo.drawn+1 }.alloc oa) ob (show wo.heap.size<_ by simp)
    exact h2.trans h1
   have hAB:∀oa ob,Below wo.heap.size wo (({ wo with drawn:=wo.drawn+1 }.alloc oa).alloc ob):=fun oa ob=>by
    have h0:Below wo.heap.size wo { wo with drawn:=wo.drawn+1 }:=(Below.refl _ wo).drew
    exact (h0.alloc (Nat.le_refl _) oa).alloc (by simp) ob
   have HA:=Lib.hid hA
   have HA0:=Lib.hid hA0
   have HAB:=Lib.hid hAB
   clear hA hA0 hAB
   have hso:=HI.out.size
   have HC0:Hid ({ wo with drawn:=wo.drawn+1 }.cell? ⟨w.heap.size+1,7,none⟩=some (.int .i64 (x.pos:Int))):=q7
   have hbl:=HI.out.lex.lt
   have HC1:Hid (∀oa,({ wo with drawn:=wo.drawn+1 }.alloc oa).cell? ⟨w.heap.size+1,7,none⟩=some (.int .i64 (x.pos:Int))):=fun oa=>(cell_alloc_old { wo with drawn:=wo.drawn+1 } oa hbl 7).trans q7
   have HC2:Hid (∀oa ob,(({ wo with drawn:=wo.drawn+1 }.alloc oa).alloc ob).cell? ⟨w.heap.size+1,7,none⟩=some (.int .i64 (x.pos:Int))):=fun oa ob=>(cell_alloc_old ({ wo with drawn:=wo.drawn+1 }.alloc oa) ob (by simp;omega) 7).trans (HC1.out oa)
   go_region_held3 (fun W=>W.cell? ⟨w.heap.size+1,7,none⟩=some (.int .i64 (x.pos:Int)))
    (first|assumption|exact HC0.out|exact HC1.out _|exact HC2.out _ _|exact H4.out.1.cell 7)
    (first|(refine step_append_lies _ rfl (.tmp 23) (.tmp 40) 74 rfl (w.heap.size+2) 77 i0 _ 1 8 Tryz.underlying74 hi0 hz0 hz1 hz2 rfl (by decide) u7 it.length (it.flatMap RI.cells) (by simp [Act.eval,Act.put]) (row_below HI.out.raws.row (HAB.out _ _)) ⟨wo.heap.size+1,0,none⟩ 1 1 [.pointer (some ⟨wo.heap.size,0,none⟩)] (by simp [Act.eval,Act.put]) rfl (World.news_of_block (HA.out _ _)) (by simp [Value.oneCell']) (by decide) (by unfold maxLen;omega) (by omega) (by simp;omega) _ rfl ?_;intro g2 cap2 w4 hown hgrow hat hlt2;have H4:=Lib.hid (HI.out.put (HAB.out _ _) ⟨Nat.le_refl _,HA0.out _ _⟩ hown hgrow);clear hown hgrow hat hlt2))
   go_wp2_with fail
   cases o with
   | crash=>exact absurd HO.out (HI.out.nocrash hcr)
   | fault =>
    refine (nt_any H4.out.1 (by rw [HO.out];simp)).mono ?_
    rw [HO.out]
    rintro e w5 ⟨m,rfl,hm,hEr,hg⟩
    have HB5:=Lib.hid (below_g2 H4.out.2.1 hg (by omega) (by omega) (by have:=H4.out.2.1.size;omega))
    have HF:=Lib.hid (HI.out.fault HO.out)
    clear hm hEr hg
    go_wp2_with fail
    refine bodyPost_ret (v:=.tuple #[.slice none 0 0,.iface 80 (.pointer (some ⟨m,0,none⟩))]) (by simp [results,Tryz.results39,go_sem]) rfl ?_
    unfold SplitP
    rw [HF.out]
    exact ⟨m,rfl,HB5.out⟩
   | tok k d =>
    refine (nt_any H4.out.1 (by rw [HO.out];simp)).mono ?_
    rw [HO.out]
    rintro e w5 ⟨z,rfl,hl,hg,hB,hd,hla⟩
    have HF:=Lib.hid (HI.out.semi (semi_of hk) HO.out H4.out hl hg hB hd)
    have p2:w5.cell? ⟨w.heap.size+1,2,none⟩=some z.coms:=hl.cell 2
    have p7:w5.cell? ⟨w.heap.size+1,7,none⟩=some (.int .i64 (z.pos:Int)):=hl.cell 7
    have HPos:=Lib.hid hB.pos
    have hco:=coms_view hB.coms
    clear hl hg hB hd hla
    rcases hco with ⟨hc1,cb,cc,hc2⟩|⟨g3,cc,c,r,hc1,hc2,hc3⟩
    ·rw [hc2] at p2
     have HC1:=Lib.hid (first_nil hc1)
     clear hc1 hc2
     go_wp2_with fail
     exact ⟨⟨z,k.first,_,by rw [HC1.out,←HPos.out],HF.out.1⟩,HF.out.2⟩
    ·rw [hc2] at p2
     have HC1:=Lib.hid (first_cons hc1)
     have hrl:(0:Int)<(r.length:Int)+1:=by omega
     clear hc1 hc2
     go_wp2_with fail
     exact ⟨⟨z,k.first,_,by rw [HC1.out],HF.out.1⟩,HF.out.2⟩
  | false =>
   cases o with
   | crash=>exact absurd HO.out (HI.out.nocrash hcr)
   | fault =>
    go_wp2_with (first|(go_at_call 28;refine (nt_any HI.out.lex (by rw [HO.out];simp)).mono ?_;rw [HO.out];rintro e w5 ⟨m,rfl,hm,hEr,hg⟩;have HB5:=Lib.hid (below_g2 HI.out.below hg (by omega) (by omega) (by have:=HI.out.size;omega));have HF:=Lib.hid (HI.out.fault HO.out);clear hm hEr hg))
    refine bodyPost_ret (v:=.tuple #[.slice none 0 0,.iface 80 (.pointer (some ⟨m,0,none⟩))]) (by simp [results,Tryz.results39,go_sem]) rfl ?_
    unfold SplitP
    rw [HF.out]
    exact ⟨m,rfl,HB5.out⟩
   | tok k d =>
    by_cases he:k.kind=lx.kEof
    ·have HE:=Lib.hid (HI.out.end (no_semi hk) HO.out he)
     by_cases hp:k.pos=n
     ·by_cases h0:0<it.length
      ·obtain ⟨g7,c7,rfl,h71,h72⟩:=HI.out.raws.row.form h0
       have h0':¬(it.length:Int)=0:=by omega
       have h0'':¬it.length=0:=by omega
       clear h71 h72
       go_wp2_with (first|(go_at_call 28;refine (nt_any HI.out.lex (by rw [HO.out];simp)).mono ?_;rw [HO.out];rintro e w5 ⟨z,rfl,hl,hg,hB,hd,hla⟩;have p1:w5.cell? ⟨w.heap.size+1,1,none⟩=some (.string z.kind):=hl.cell 1;have p7:w5.cell? ⟨w.heap.size+1,7,none⟩=some (.int .i64 (z.pos:Int)):=hl.cell 7;rw [hB.pos,hp] at p7;have hke:(z.kind.toList==[60,101,111,102,62])=true:=(kind_is hB.kind).2 he;have HR5:=Lib.hid (HI.out.raws.kept (by omega) hg);have HB5:=Lib.hid (below_g1 HI.out.below hg (by omega) (by have:=HI.out.size;omega));clear hl hg hB hd hla))
       refine bodyPost_ret (v:=.tuple #[.slice (some ⟨g7,0,none⟩) it.length c7,.nilIface]) (by simp [results,Tryz.results39,go_sem]) rfl ?_
       unfold SplitP
       rw [HE.out.1]
       have hc:=HE.out.2.2.2
       rw [if_pos hp,List.append_nil] at hc
       exact ⟨_,it,rfl,HR5.out.view h0,(raws_of hc (fun e=>by rw [List.map_eq_nil_iff] at e;rw [e] at h0;exact absurd h0 (by decide))).symm,HB5.out⟩
      ·have hit:it=[]:=List.eq_nil_of_length_eq_zero (by omega)
       obtain ⟨b7,c7,rfl⟩:=nil_form HI.out.raws.row (by rw [hit];rfl)
       go_wp2_with (first|(go_at_call 28;refine (nt_any HI.out.lex (by rw [HO.out];simp)).mono ?_;rw [HO.out];rintro e w5 ⟨z,rfl,hl,hg,hB,hd,hla⟩;have p1:w5.cell? ⟨w.heap.size+1,1,none⟩=some (.string z.kind):=hl.cell 1;have p7:w5.cell? ⟨w.heap.size+1,7,none⟩=some (.int .i64 (z.pos:Int)):=hl.cell 7;rw [hB.pos,hp] at p7;have hke:(z.kind.toList==[60,101,111,102,62])=true:=(kind_is hB.kind).2 he;have HR5:=Lib.hid (HI.out.raws.kept (by omega) hg);have HB5:=Lib.hid (below_g1 HI.out.below hg (by omega) (by have:=HI.out.size;omega));clear hl hg hB hd hla))
       refine bodyPost_ret (v:=.tuple #[.slice (some ⟨w5.heap.size+1,0,none⟩) 1 1,.nilIface]) (by simp [results,Tryz.results39,go_sem]) rfl ?_
       unfold SplitP
       rw [HE.out.1]
       have hc:=HE.out.2.2.2
       rw [if_pos hp,List.append_nil,hit] at hc
       have hb2:Below w5.heap.size w5 ((w5.alloc (.cells #[.int .i64 0,.int .i64 0,.string ⟨#[]⟩] 79)).alloc (.cells #[.pointer (some ⟨w5.heap.size,0,none⟩)] 77)):=((Below.refl _ _).alloc (Nat.le_refl _) _).alloc (by simp) _
       exact ⟨_,[⟨w5.heap.size,0,0⟩],rfl,one_empty w5 s 1,(raws_none hc).symm,HB5.out.trans (hb2.mono HB5.out.size)⟩
     ·have hne:¬(k.pos:Int)=(n:Int):=by omega
      have z3:(n:Int)≤(k.pos:Int):=by have:=HE.out.2.1;omega
      have z4:(k.pos:Int)≤(s.size:Int):=by have:=HE.out.2.2.1;omega
      go_wp2_with (first|(go_at_call 28;refine (nt_any HI.out.lex (by rw [HO.out];simp)).mono ?_;rw [HO.out];rintro e w5 ⟨z,rfl,hl,hg,hB,hd,hla⟩;have p1:w5.cell? ⟨w.heap.size+1,1,none⟩=some (.string z.kind):=hl.cell 1;have p7:w5.cell? ⟨w.heap.size+1,7,none⟩=some (.int .i64 (z.pos:Int)):=hl.cell 7;rw [hB.pos] at p7;have hke:(z.kind.toList==[60,101,111,102,62])=true:=(kind_is hB.kind).2 he;have HR5:=Lib.hid (HI.out.raws.kept (by omega) hg);have HB5:=Lib.hid (below_g1 HI.out.below hg (by omega) (by have:=HI.out.size;omega));have HL5:=Lib.hid hl;have HS5:=Lib.hid hg.size;clear hl hg hB hd hla))
      obtain ⟨i0,hi0,hz0,hz1,hz2⟩:=info_parts rawInfo
      have hitn:it.length≤20000:=by have h1:=HI.out.len;have h2:=HI.out.lex.le;omega
      have hA:∀oa ob,(({ w5 with drawn:=w5.drawn+1 }.alloc oa).alloc ob).heap[w5.heap.size+1]?=some ob:=fun oa ob=>by
       have:=heap_alloc_new ({ w5 with drawn:=w5.drawn+1 }.alloc oa) ob
       simpa using this
      have hA0:∀oa ob,(({ w5 with drawn:=w5.drawn+1 }.alloc oa).alloc ob).heap[w5.heap.size]?=some oa:=fun oa ob=>by
       have h1:=heap_alloc_new { w5 with drawn:=w5.drawn+1 } oa
       have h2:=heap_alloc_old ({ w5 with drawn:=w5.drawn+1 }.alloc oa) ob (show w5.heap.size<_ by simp)
       exact h2.trans h1
      have hAB:∀oa ob,Below w5.heap.size w5 (({ w5 with drawn:=w5.drawn+1 }.alloc oa).alloc ob):=fun oa ob=>by
       have h0:Below w5.heap.size w5 { w5 with drawn:=w5.drawn+1 }:=(Below.refl _ w5).drew
       exact (h0.alloc (Nat.le_refl _) oa).alloc (by simp) ob
      have HA:=Lib.hid hA
      have HA0:=Lib.hid hA0
      have HAB:=Lib.hid hAB
      clear hA hA0 hAB
      have hso:w.heap.size+2≤w5.heap.size:=by have:=HI.out.size;have:=HS5.out;omega
      have HC0:Hid ({ w5 with drawn:=w5.drawn+1 }.cell? ⟨w.heap.size+1,7,none⟩=some (.int .i64 (k.pos:Int))):=p7
      have hbl:=HL5.out.lt
      have HC1:Hid (∀oa,({ w5 with drawn:=w5.drawn+1 }.alloc oa).cell? ⟨w.heap.size+1,7,none⟩=some (.int .i64 (k.pos:Int))):=fun oa=>(cell_alloc_old { w5 with drawn:=w5.drawn+1 } oa hbl 7).trans p7
      have HC2:Hid (∀oa ob,(({ w5 with drawn:=w5.drawn+1 }.alloc oa).alloc ob).cell? ⟨w.heap.size+1,7,none⟩=some (.int .i64 (k.pos:Int))):=fun oa ob=>(cell_alloc_old ({ w5 with drawn:=w5.drawn+1 }.alloc oa) ob (by simp;omega) 7).trans (HC1.out oa)
      clear p1
      go_region_held3 (fun W=>W.cell? ⟨w.heap.size+1,7,none⟩=some (.int .i64 (k.pos:Int)))
       (first|assumption|exact HC0.out|exact HC1.out _|exact HC2.out _ _|exact HC4.out)
       (first|(refine step_append_lies _ rfl (.tmp 85) (.tmp 102) 74 rfl (w.heap.size+2) 77 i0 _ 1 8 Tryz.underlying74 hi0 hz0 hz1 hz2 rfl (by decide) u7 it.length (it.flatMap RI.cells) (by simp [Act.eval,Act.put]) (row_below HR5.out.row (HAB.out _ _)) ⟨w5.heap.size+1,0,none⟩ 1 1 [.pointer (some ⟨w5.heap.size,0,none⟩)] (by simp [Act.eval,Act.put]) rfl (World.news_of_block (HA.out _ _)) (by simp [Value.oneCell']) (by decide) (by unfold maxLen;omega) (by omega) (by simp;omega) _ rfl ?_;intro g2 cap2 w6 hown hgrow hat hlt2;have HC4:Hid (w6.cell? ⟨w.heap.size+1,7,none⟩=some (.int .i64 (k.pos:Int))):=((World.cell?_of_block (hgrow.block (w.heap.size+1) (by simp;omega) (fun e=>by have:=(HR5.out.row.lt _ e.symm).1;omega))).trans (HC2.out _ _));have H6:=Lib.hid ((HR5.out.below (HAB.out _ _)).add (r:=⟨w5.heap.size,n,k.pos⟩) ⟨hso,HA0.out _ _⟩ hown hgrow);have HB6:=Lib.hid (below_own (HB5.out.trans ((HAB.out _ _).mono (by omega))) (HR5.out.below (HAB.out _ _)) hgrow (by omega) (by simp;omega));clear hown hgrow hat hlt2))
      have hl0:¬(it.length:Int)+1=0:=by omega
      go_wp2_with fail
      refine bodyPost_ret (v:=.tuple #[.slice (some ⟨g2,0,none⟩) (it.length+1) cap2,.nilIface]) (by simp [results,Tryz.results39,go_sem]) rfl ?_
      unfold SplitP
      rw [HE.out.1]
      have hc:=HE.out.2.2.2
      rw [if_neg hp] at hc
      have hv:=H6.out.view (by simp)
      exact ⟨_,_,rfl,hv,by rw [List.map_append];exact (raws_of hc (by simp)).symm,HB6.out⟩
    ·go_wp2_with (first|(go_at_call 28;refine (nt_any HI.out.lex (by rw [HO.out];simp)).mono ?_;rw [HO.out];rintro e w5 ⟨z,rfl,hl,hg,hB,hd,hla⟩;have p1:w5.cell? ⟨w.heap.size+1,1,none⟩=some (.string z.kind):=hl.cell 1;have p7:w5.cell? ⟨w.heap.size+1,7,none⟩=some (.int .i64 (z.pos:Int)):=hl.cell 7;rw [hB.pos] at p7;have hke:(z.kind.toList==[60,101,111,102,62])=false:=Bool.eq_false_iff.2 (fun h=>he ((kind_is hB.kind).1 h));have HG5:=Lib.hid (HI.out.go (no_semi hk) HO.out he hl hg hB hd);clear hl hg hB hd hla))
     exact ⟨⟨z,n,it,rfl,HG5.out.1⟩,HG5.out.2⟩
end Go.Proofs.YtaamolahbkgofaaGreatDoor.lex
