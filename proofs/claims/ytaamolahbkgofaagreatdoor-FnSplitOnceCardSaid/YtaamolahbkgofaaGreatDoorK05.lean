/-
  The lexer's nextToken: what it leaves in the lexer's cells is the next token of the text. The thin package's tokenOf: a token with its comments as plain data. Plain lemmas on how long tokens are. Plain lemmas: a token lies in its text, has a byte unless it is the end, and is none of the kind <bad>. Plain lemmas: where the next token stands. The tokens that impl.Lex hands back, in memory. How the tokens that impl.Lex hands back are read. Conditions: of each, in its statement.
-/
import Derived.Test.YtaamolahbkgofaaGreatDoorK03
import Derived.Test.YtaamolahbkgofaaGreatDoorK14
import Derived.Deep.RegionHeld2
import Derived.Deep.AppendLies
set_option linter.unusedVariables false
set_option linter.unusedSimpArgs false
namespace Go.Proofs.YtaamolahbkgofaaGreatDoor.lex
open Go.RowKit mem lines
theorem lx_spaces_le (s:ByteArray) (k:Nat):lx.spaces (rest s k)≤s.size-k:=by
 have:=spaces_le (rest s k)
 rw [rest_length] at this
 exact this
theorem LexS.flt {w:World} {B b f:Nat} {s:ByteArray} {x:St} (h:LexS w B b f s x):f<w.heap.size:=by
 obtain ⟨p,hp⟩:=h.file
 exact lt_of_heap hp
theorem extract_rest (s:ByteArray) (p n:Nat):s.extract p (p+n)=⟨((rest s p).take n).toArray⟩:=by
 apply ByteArray.ext
 apply Array.ext'
 simp [rest,ByteArray.data_extract,List.extract_eq_take_drop]
theorem lex_base {w:World} {B b f:Nat} {s:ByteArray} {y:St} (h:LexS w B b f s y) (e:y.base=0):LexS w B b f s { y with base:=0 }:=by
 cases y
 subst e
 exact h
/-- The cells of a comment. -/
def comV (c:lx.Cm):List Value:=[.string ⟨c.sp.toArray⟩,.string ⟨c.raw.toArray⟩,.int .i64 (c.pos:Int),.int .i64 (c.fin:Int)]
def St.fresh (x:St) (k:Nat) (v:Value):St:={ kind:=⟨#[]⟩,coms:=v,sp:=⟨#[]⟩,raw:=⟨#[]⟩,str:=⟨#[]⟩,base:=0,pos:=0,fin:=0,at_:=k,last:=x.kind,dot:=x.dot }
/-- What holds at the beginning of a round of nextToken's loop: k bytes from the text's beginning on, the comments cs being read. -/
structure NI (w:World) (B b f:Nat) (s:ByteArray) (x:St) (k:Nat) (cs:List (Nat × Nat)) (v:Value) (W:World):Prop where
 lex:LexS W B b f s (x.fresh k v)
 grown:w.grownBy W (some b)
 row:W.ownsRow w.heap.size 88 4 v cs.length ((lx.comsOf x.at_ (rest s x.at_) cs).flatMap comV)
 at_:k=x.at_+lx.comsLen cs
 ahead:lx.ahead (rest s x.at_)=(cs++(lx.ahead (rest s k)).1,(lx.ahead (rest s k)).2)
 le:k≤s.size
 len:cs.length≤lx.comsLen cs
theorem comInfo:(Tryz.prog.info? 88).map (fun i=>(i.zero,i.size,i.bytes))=some (some (.agg #[.string ⟨#[]⟩,.string ⟨#[]⟩,.int .i64 0,.int .i64 0]),4,48):=by kernel_rfl
theorem lex_grow {W W':World} {B b f base:Nat} {row:Option Nat} {s:ByteArray} {x:St} (h:LexS W B b f s x) (hB:B≤base) (hb:b<base) (hf:f<base) (hs:base≤W.heap.size) (hg:W.grownBy W' row) (hr:∀k,row=some k→base≤k):LexS W' B b f s x :=
 lex_under h hB hb hf ⟨hg.os,hg.tape,hg.output,hg.size,fun i hi=>hg.block i (Nat.lt_of_lt_of_le hi hs) (fun e=>by have:=hr i e.symm;omega)⟩
theorem after_append {w W w1:World} {B b f:Nat} {s:ByteArray} {y:St} {v:Value} (h:LexS W B b f s y) (hg:w.grownBy W (some b)) (hB:B≤w.heap.size) (hb:b<w.heap.size) (hf:f<w.heap.size)
  (hr:∀k,v.ownBlock=some k→w.heap.size≤k) (hgr:W.grownBy w1 v.ownBlock):LexS w1 B b f s y∧w.grownBy w1 (some b) :=
 ⟨lex_grow h hB hb hf hg.size hgr hr,⟨hgr.os.trans hg.os,hgr.tape.trans hg.tape,hgr.output.trans hg.output,Nat.le_trans hg.size hgr.size,fun i hi hn =>
  (hgr.block i (Nat.lt_of_lt_of_le hi hg.size) (fun e=>by have:=hr i e.symm;omega)).trans (hg.block i hi hn)⟩⟩
theorem row_kept {W W':World} {b base n e size:Nat} {v:Value} {xs:List Value} (h:W.ownsRow base e size v n xs) (hb:b<base) (hg:W.grownBy W' (some b)):W'.ownsRow base e size v n xs:=by
 refine h.kept hg ?_
 cases hv:v.ownBlock with
 | none=>exact .inl rfl
 | some k =>
  have:=(h.lt k hv).1
  exact .inr (by simp;omega)
theorem NI.start {w:World} {B b f:Nat} {s:ByteArray} {x:St} (h:LexS w B b f s x):NI w B b f s x x.at_ [] (.slice none 0 0) (((((((((w.setCell ⟨b,10,none⟩ (.string x.kind)).setCell ⟨b,1,none⟩ (.string ⟨#[]⟩)).setCell ⟨b,2,none⟩ (.slice none 0 0)).setCell ⟨b,3,none⟩ (.string ⟨#[]⟩)).setCell ⟨b,4,none⟩ (.string ⟨#[]⟩)).setCell ⟨b,5,none⟩ (.string ⟨#[]⟩)).setCell ⟨b,6,none⟩ (.int .i64 0)).setCell ⟨b,7,none⟩ (.int .i64 0)).setCell ⟨b,8,none⟩ (.int .i64 0)):=by
 refine ⟨?_, ?_,World.ownsRow_nil _ _ _ _,by simp [lx.comsLen],by simp,h.le,by simp⟩
 ·exact ((((((((h.set 10 _ { x with last:=x.kind } rfl h.le).set 1 _ { x with last:=x.kind,kind:=⟨#[]⟩ } rfl h.le).set 2 _ { x with last:=x.kind,kind:=⟨#[]⟩,coms:=.slice none 0 0 } rfl h.le).set 3 _ { x with last:=x.kind,kind:=⟨#[]⟩,coms:=.slice none 0 0,sp:=⟨#[]⟩ } rfl h.le).set 4 _ { x with last:=x.kind,kind:=⟨#[]⟩,coms:=.slice none 0 0,sp:=⟨#[]⟩,raw:=⟨#[]⟩ } rfl h.le).set 5 _ { x with last:=x.kind,kind:=⟨#[]⟩,coms:=.slice none 0 0,sp:=⟨#[]⟩,raw:=⟨#[]⟩,str:=⟨#[]⟩ } rfl h.le).set 6 _ { x with last:=x.kind,kind:=⟨#[]⟩,coms:=.slice none 0 0,sp:=⟨#[]⟩,raw:=⟨#[]⟩,str:=⟨#[]⟩,base:=0 } rfl h.le).set 7 _ { x with last:=x.kind,kind:=⟨#[]⟩,coms:=.slice none 0 0,sp:=⟨#[]⟩,raw:=⟨#[]⟩,str:=⟨#[]⟩,base:=0,pos:=0 } rfl h.le).set 8 _ (x.fresh x.at_ (.slice none 0 0)) rfl h.le
 ·exact grown_set (grown_set (grown_set (grown_set (grown_set (grown_set (grown_set (grown_set (grown_set (grown_refl w (some b)) 10 _) 1 _) 2 _) 3 _) 4 _) 5 _) 6 _) 7 _) 8 _
section
variable {w wr W:World} {B b f:Nat} {s:ByteArray} {x:St} {k a m:Nat} {cs:List (Nat × Nat)} {v v':Value}
theorem NI.coms (h:NI w B b f s x k cs v wr) (a m:Nat):(lx.comsOf x.at_ (rest s x.at_) (cs++[(a,m)])).flatMap comV=(lx.comsOf x.at_ (rest s x.at_) cs).flatMap comV++[.string (s.extract k (k+a)),.string (s.extract (k+a) (k+a+m)),.int .i64 ((k:Int)+a),.int .i64 ((k+a+m:Nat):Int)]:=by
 rw [lx.comsOf_append,List.flatMap_append,←h.at_,rest_drop,←h.at_]
 congr 1
 rw [extract_rest,extract_rest]
 simp [lx.comsOf,comV,rest_drop]
theorem NI.step (h:NI w B b f s x k cs v wr) (ha:lx.spaces (rest s k)=a) (ho:lx.comment (rest s (k+a))=.some m) (hm:1≤m∧k+a+m≤s.size) (hl:LexS W B b f s (x.fresh (k+a+m) v')) (hg:w.grownBy W (some b))
  (hr:W.ownsRow w.heap.size 88 4 v' (cs.length+1) ((lx.comsOf x.at_ (rest s x.at_) cs).flatMap comV++[.string (s.extract k (k+a)),.string (s.extract (k+a) (k+a+m)),.int .i64 ((k:Int)+a),.int .i64 ((k+a+m:Nat):Int)])):NI w B b f s x (k+a+m) (cs++[(a,m)]) v' W:=by
 have e:=h.at_
 refine ⟨hl,hg, ?_, ?_, ?_,hm.2, ?_⟩
 ·rw [h.coms,List.length_append]
  exact hr
 ·rw [lx.comsLen_append,e]
  simp [lx.comsLen]
  omega
 ·rw [h.ahead,lx.ahead_some (t:=rest s k) (m:=m) (by rw [ha,rest_drop];exact ho),ha,rest_drop]
  simp [Nat.add_assoc]
 ·have:=h.len
  rw [lx.comsLen_append,List.length_append]
  simp [lx.comsLen]
  omega
end
/-- A token in the lexer's cells. -/
structure Bears (w w':World) (z:St) (k:lx.Tk):Prop where
 kind:z.kind=⟨k.kind.toArray⟩
 coms:w'.ownsRow w.heap.size 88 4 z.coms k.coms.length (k.coms.flatMap comV)
 sp:z.sp=⟨k.sp.toArray⟩
 raw:z.raw=⟨k.raw.toArray⟩
 text:k.kind=lx.kBad∨(z.str=⟨k.text.toArray⟩∧z.base=(k.base:Int))
 pos:z.pos=k.pos
 fin:z.fin=k.fin
 at_:z.at_=k.fin
/-- What nextToken comes to. -/
def NextPost (B b f:Nat) (s:ByteArray) (x:St) (o:lx.Got) (w:World) (e:Ending) (w':World):Prop :=
 match o with
 | .tok k d=>∃z:St,e=.returned (.tuple #[])∧LexS w' B b f s z∧w.grownBy w' (some b)∧Bears w w' z k∧z.dot=d∧z.last=x.kind
 | .fault=>Faults b f w e w'
 | .crash=>True
def Fits (y z:St):lx.Out→Prop
 | .tok k len text base d=>z={ y with kind:=⟨k.toArray⟩,at_:=y.at_+len,str:=⟨text.toArray⟩,base:=(base:Int),dot:=d.getD y.dot }
 | .bad len=>z.kind=⟨lx.kBad.toArray⟩∧z.at_=y.at_+len∧z.coms=y.coms∧z.sp=y.sp∧z.raw=y.raw∧z.pos=y.pos∧z.fin=y.fin∧z.last=y.last∧z.dot=y.dot
 | _=>False
theorem TokPost.go {B b f:Nat} {s:ByteArray} {y:St} {o:lx.Out} {w w':World} {e:Ending} (k:TokPost B b f s y o w e w') (h1:o≠.fault) (h2:o≠.crash) :
  ∃z:St,e=.returned (.tuple #[])∧LexS w' B b f s z∧w.grownBy w' (some b)∧Fits y z o:=by
 cases o with
 | tok kk len text base d=>exact ⟨_,k.1,k.2.1,k.2.2,rfl⟩
 | bad len =>
  obtain ⟨z,hz,k⟩:=k
  exact ⟨z,k.1,k.2.1,k.2.2,hz⟩
 | fault=>exact absurd rfl h1
 | crash=>exact absurd rfl h2
theorem next_no {w wr:World} {B b f:Nat} {s:ByteArray} {x:St} {k a:Nat} {cs:List (Nat × Nat)} {v:Value} (h:NI w B b f s x k cs v wr) (ha:lx.spaces (rest s k)=a) (ho:lx.comment (rest s (k+a))=.no) (np:Bool) (last:lx.Bs) (dot:Bool) :
  lx.nextTok np x.at_ last dot (rest s x.at_)=lx.gotOf x.at_ (rest s x.at_) dot (lx.comsOf x.at_ (rest s x.at_) cs) (lx.comsLen cs) a (lx.own np last dot (rest s (k+a))):=by
 have hc:lx.comment ((rest s k).drop (lx.spaces (rest s k)))=.no:=by rw [ha,rest_drop];exact ho
 have e:=h.ahead
 rw [lx.ahead_no hc,ha] at e
 unfold lx.nextTok
 rw [e]
 simp only [List.append_nil]
 rw [rest_drop,←Nat.add_assoc,←h.at_]
theorem next_open {w wr:World} {B b f:Nat} {s:ByteArray} {x:St} {k a m:Nat} {cs:List (Nat × Nat)} {v:Value} (h:NI w B b f s x k cs v wr) (ha:lx.spaces (rest s k)=a) (ho:lx.comment (rest s (k+a))=.open_) (hm:s.size=k+a+m) (np:Bool) (last:lx.Bs) (dot:Bool) :
  lx.nextTok np x.at_ last dot (rest s x.at_)=if np then .tok ⟨lx.kBad,lx.comsOf x.at_ (rest s x.at_) (cs++[(a,m)]),[],[],[],0,s.size,s.size⟩ dot else .fault:=by
 have hc:lx.comment ((rest s k).drop (lx.spaces (rest s k)))=.open_:=by rw [ha,rest_drop];exact ho
 have e:=h.ahead
 have hl:(rest s (k+a)).length=m:=by rw [rest_length];omega
 rw [lx.ahead_open hc,ha,rest_drop,hl] at e
 unfold lx.nextTok
 rw [e]
 simp only
 have:x.at_+lx.comsLen (cs++[(a,m)])=s.size:=by
  rw [lx.comsLen_append]
  have:=h.at_
  simp [lx.comsLen]
  omega
 rw [this]
theorem open_size {t:lx.Bs} (h:lx.comment t=.open_):1≤t.length:=by
 cases t with
 | nil=>rw [lx.comment_nil] at h;cases h
 | cons c r=>simp
end Go.Proofs.YtaamolahbkgofaaGreatDoor.lex
set_option linter.unusedVariables false
set_option linter.unusedSimpArgs false
namespace Go.Proofs.YtaamolahbkgofaaGreatDoor.lex
open Go.RowKit mem lines plain
theorem com_cells:∀(cs:List lx.Cm) (i j:Nat) (h:i<cs.length),j<4→(cs.flatMap comV)[i*4+j]?=(comV cs[i])[j]?
 | [],i,j,h,_=>by simp at h
 | c::r,0,j,h,hj=>by
  simp only [List.flatMap_cons,Nat.zero_mul,Nat.zero_add,List.getElem_cons_zero]
  rw [List.getElem?_append_left (by simp [comV];omega)]
 | c::r,i+1,j,h,hj=>by
  simp only [List.flatMap_cons,List.getElem_cons_succ]
  rw [List.getElem?_append_right (by simp [comV];omega),show (i+1)*4+j-(comV c).length=i*4+j from by simp [comV];omega]
  exact com_cells r i j (by simpa using h) hj
theorem com_length:∀(cs:List lx.Cm),(cs.flatMap comV).length=cs.length*4
 | []=>rfl
 | c::r=>by
  have:=com_length r
  simp only [List.flatMap_cons,List.length_append,List.length_cons,this]
  simp [comV]
  omega
theorem com_take (cs:List lx.Cm) (i:Nat) (h:i<cs.length):((cs.take (i+1)).flatMap comV)=(cs.take i).flatMap comV++comV cs[i]:=by
 rw [List.take_succ_eq_append_getElem h,List.flatMap_append]
 simp
theorem own_cell {w:World} {base e g n cap:Nat} {xs:List Value} (h:w.ownsRow base e 4 (.slice (some ⟨g,0,none⟩) n cap) n xs) (i j:Nat) (hj:j<4) (hi:i<n):w.cell? ⟨g,i*4+j,none⟩=xs[i*4+j]?:=by
 obtain ⟨h1,⟨h2,_⟩|⟨g',cap',cur,h3,h4,h5,h6,h7,h8,h9⟩⟩:=h
 ·cases h2
 ·cases h3
  rw [cells_of_heap h5,←h9,List.getElem?_take,if_pos (by omega),Array.getElem?_toList]
theorem comInfo31:(Tryz.prog.info? 31).map (fun i=>(i.zero,i.size,i.bytes))=some (some (.agg #[.string ⟨#[]⟩,.string ⟨#[]⟩,.int .i64 0,.int .i64 0]),4,48):=by kernel_rfl
theorem cell_alloc_old (W:World) (o:Obj) {g:Nat} (h:g<W.heap.size) (j:Nat):(W.alloc o).cell? ⟨g,j,none⟩=W.cell? ⟨g,j,none⟩:=World.cell?_of_block ((below_alloc W o).block g h)
/-- What holds at the beginning of a round: i comments are copied. -/
structure TI (w:World) (K S R T:ByteArray) (B P F:Int) (cs:List lx.Cm) (i:Nat) (v:Value) (W:World):Prop where
 below:Below w.heap.size w W
 size:w.heap.size+3≤W.heap.size
 x:W.heap[w.heap.size+2]?=some (.cells #[.string K,.string S,.string R,.string T,.int .i64 B,.int .i64 P,.int .i64 F,v] 29 (0,0))
 y:W.heap[w.heap.size+1]?=some (.cells #[.string ⟨#[]⟩,.string ⟨#[]⟩,.string ⟨#[]⟩,.string ⟨#[]⟩,.int .i64 0,.int .i64 0,.int .i64 0,.slice none 0 0] 29 (0,0))
 row:W.ownsRow (w.heap.size+3) 31 4 v i ((cs.take i).flatMap comV)
theorem TI.start (w:World) (K S R T:ByteArray) (B P F:Int) (cs:List lx.Cm) (vs:Array Value) (tt:TypeId):TI w K S R T B P F cs 0 (.slice none 0 0) (((w.alloc (.cells vs tt)).alloc (.cells #[.string ⟨#[]⟩,.string ⟨#[]⟩,.string ⟨#[]⟩,.string ⟨#[]⟩,.int .i64 0,.int .i64 0,.int .i64 0,.slice none 0 0] 29)).alloc (.cells #[.string K,.string S,.string R,.string T,.int .i64 B,.int .i64 P,.int .i64 F,.slice none 0 0] 29)):=by
 refine ⟨(((Below.refl _ _).alloc (Nat.le_refl _) _).alloc (by simp) _).alloc (by simp;omega) _,by simp, ?_, ?_,World.ownsRow_nil _ _ _ _⟩
 ·have:=heap_alloc_new ((w.alloc (.cells vs tt)).alloc (.cells #[.string ⟨#[]⟩,.string ⟨#[]⟩,.string ⟨#[]⟩,.string ⟨#[]⟩,.int .i64 0,.int .i64 0,.int .i64 0,.slice none 0 0] 29)) (.cells #[.string K,.string S,.string R,.string T,.int .i64 B,.int .i64 P,.int .i64 F,.slice none 0 0] 29)
  simpa using this
 ·have:=heap_alloc_new (w.alloc (.cells vs tt)) (.cells #[.string ⟨#[]⟩,.string ⟨#[]⟩,.string ⟨#[]⟩,.string ⟨#[]⟩,.int .i64 0,.int .i64 0,.int .i64 0,.slice none 0 0] 29)
  rw [show (w.alloc (.cells vs tt)).heap.size=w.heap.size+1 from by simp] at this
  exact (heap_alloc_old _ _ (by simp)).trans this
theorem own_base {W:World} {b1 b2 n e size:Nat} {v:Value} {xs:List Value} (h:W.ownsRow b1 e size v n xs) (hb:b2≤b1):W.ownsRow b2 e size v n xs:=by
 obtain ⟨h1,h2|⟨g,cap,cur,h3,h4,h5⟩⟩:=h
 ·exact ⟨h1,.inl h2⟩
 ·exact ⟨h1,.inr ⟨g,cap,cur,h3,Nat.le_trans hb h4,h5⟩⟩
theorem TI.done {w wr W':World} {K S R T:ByteArray} {B P F:Int} {cs:List lx.Cm} {i n y:Nat} {v:Value} (h:TI w K S R T B P F cs i v wr) (hy:w.heap.size+1=y) (hi:i=n) (hn:n=cs.length) (hg:wr.grownBy W' (some y)):W'.ownsRow w.heap.size 31 4 v n (cs.flatMap comV)∧Below w.heap.size w W':=by
 subst hi hn hy
 have h1:=h.row
 rw [List.take_length] at h1
 refine ⟨own_base (row_kept h1 (by omega) hg) (by omega),⟨hg.os.trans h.below.os,hg.tape.trans h.below.tape,hg.output.trans h.below.output,Nat.le_trans h.below.size hg.size,fun k hk=>?_⟩⟩
 have:=h.size
 exact (hg.block k (by omega) (by simp;omega)).trans (h.below.block k hk)
/-- Eight cells of a block are written. -/
def put8 (W:World) (y:Nat) (v0 v1 v2 v3 v4 v5 v6 v7:Value):World:=(((((((W.setCell ⟨y,0,none⟩ v0).setCell ⟨y,1,none⟩ v1).setCell ⟨y,2,none⟩ v2).setCell ⟨y,3,none⟩ v3).setCell ⟨y,4,none⟩ v4).setCell ⟨y,5,none⟩ v5).setCell ⟨y,6,none⟩ v6).setCell ⟨y,7,none⟩ v7
theorem put8_heap {W:World} {y:Nat} {t:TypeId} {a0 a1 a2 a3 a4 a5 a6 a7:Value} (h:W.heap[y]?=some (.cells #[a0,a1,a2,a3,a4,a5,a6,a7] t (0,0))) (v0 v1 v2 v3 v4 v5 v6 v7:Value):(put8 W y v0 v1 v2 v3 v4 v5 v6 v7).heap[y]?=some (.cells #[v0,v1,v2,v3,v4,v5,v6,v7] t (0,0)):=by
 have e:=set_of_heap (set_of_heap (set_of_heap (set_of_heap (set_of_heap (set_of_heap (set_of_heap (set_of_heap h 0 v0) 1 v1) 2 v2) 3 v3) 4 v4) 5 v5) 6 v6) 7 v7
 simp only [List.setIfInBounds_toArray,List.set_cons_zero,List.set_cons_succ] at e
 exact e
theorem put8_grown (W:World) (y:Nat) (v0 v1 v2 v3 v4 v5 v6 v7:Value):W.grownBy (put8 W y v0 v1 v2 v3 v4 v5 v6 v7) (some y) :=
 grown_set (grown_set (grown_set (grown_set (grown_set (grown_set (grown_set (grown_set (grown_refl W (some y)) 0 v0) 1 v1) 2 v2) 3 v3) 4 v4) 5 v5) 6 v6) 7 v7
theorem to_results {W:World} {y:Nat} {tmps:Array Value} {v0 v1 v2 v3 v4 v5 v6 v7:Value} (hp:tmps.getD 2 undef=.pointer (some ⟨y,0,none⟩)) (h:W.heap[y]?=some (.cells #[v0,v1,v2,v3,v4,v5,v6,v7] 29 (0,0))):(results Tryz.f30 tmps).run Tryz.prog W=.ok (.agg #[v0,v1,v2,v3,v4,v5,v6,v7]) W :=
 results_cell_row Tryz.results30 tmps W y 29 _ (0,0) _ hp h Tryz.underlying29 rfl (by kernel_rfl)
theorem TI.step {w wr w2:World} {K S R T:ByteArray} {B P F:Int} {cs:List lx.Cm} {i:Nat} {v nv:Value} {c:lx.Cm} {oa ob:Obj} (h:TI w K S R T B P F cs i v wr) (hic:i<cs.length) (hc:cs[i]=c)
  (hown:w2.ownsRow (w.heap.size+3) 31 4 nv (i+1) ((cs.take i).flatMap comV++comV c)) (hgrow:((wr.alloc oa).alloc ob).grownBy w2 v.ownBlock):TI w K S R T B P F cs (i+1) nv (w2.setCell ⟨w.heap.size+2,7,none⟩ nv):=by
 have hs:wr.heap.size+2=((wr.alloc oa).alloc ob).heap.size:=by simp
 have hz:=h.size
 have hz2:=hgrow.size
 have hr:∀k,v.ownBlock=some k→w.heap.size+3≤k:=fun k hk=>(h.row.lt k hk).1
 have hb:∀k,k<w.heap.size+3→w2.heap[k]?=wr.heap[k]?:=fun k hk =>
  (hgrow.block k (by omega) (fun e=>by have:=hr k e.symm;omega)).trans ((heap_alloc_old _ _ (by simp;omega)).trans (heap_alloc_old _ _ (by omega)))
 have hset:∀k,k≠w.heap.size+2→(w2.setCell ⟨w.heap.size+2,7,none⟩ nv).heap[k]?=w2.heap[k]?:=fun k hk=>Below.heap_setCell w2 ⟨w.heap.size+2,7,none⟩ nv k hk
 have hg2:w2.grownBy (w2.setCell ⟨w.heap.size+2,7,none⟩ nv) (some (w.heap.size+2)):=grown_set (grown_refl w2 (some (w.heap.size+2))) 7 nv
 refine ⟨⟨?_, ?_, ?_, ?_,fun k hk=>?_⟩, ?_, ?_, ?_, ?_⟩
 ·exact hg2.os.trans (hgrow.os.trans h.below.os)
 ·exact hg2.tape.trans (hgrow.tape.trans h.below.tape)
 ·exact hg2.output.trans (hgrow.output.trans h.below.output)
 ·have:=hg2.size;omega
 ·exact (hset k (by omega)).trans ((hb k (by omega)).trans (h.below.block k hk))
 ·have:=hg2.size;omega
 ·have hx:=(hb (w.heap.size+2) (by omega)).trans h.x
  exact set_of_heap hx 7 nv
 ·exact (hset _ (by omega)).trans ((hb (w.heap.size+1) (by omega)).trans h.y)
 ·rw [com_take cs i hic,hc]
  exact row_kept hown (by omega) hg2
set_option maxHeartbeats 4000000 in
set_option maxRecDepth 100000 in
theorem to_some {w:World} {b0:Nat} (K S R T:ByteArray) (B P F:Int) (g cap:Nat) (cs:List lx.Cm) (hv:w.ownsRow b0 88 4 (.slice (some ⟨g,0,none⟩) cs.length cap) cs.length (cs.flatMap comV)) (hn:cs.length≤20000) :
  Calls Tryz.prog 30 #[.agg #[.string K,.slice (some ⟨g,0,none⟩) cs.length cap,.string S,.string R,.string T,.int .i64 B,.int .i64 P,.int .i64 F]] w fun e w'=>∃v',e=.returned (.agg #[.string K,.string S,.string R,.string T,.int .i64 B,.int .i64 P,.int .i64 F,v'])∧w'.ownsRow w.heap.size 31 4 v' cs.length (cs.flatMap comV)∧Below w.heap.size w w':=by
 have HV:=Lib.hid hv
 clear hv
 obtain ⟨n,hn1,hnn⟩:∃n,n=cs.length∧Hid (n=cs.length):=⟨_,rfl,(rfl:cs.length=cs.length)⟩
 rw [←hn1] at hn ⊢
 clear hn1
 go_enter Tryz.func30,Tryz.ntmps30
 go_wp2_with fail
 obtain ⟨yb,hyb⟩:∃yb,w.heap.size+1=yb:=⟨_,rfl⟩
 obtain ⟨xb,hxb⟩:∃xb,w.heap.size+2=xb:=⟨_,rfl⟩
 rw [show w.heap.size+1+1=xb from by omega,hyb]
 go_loopw [24] (fun iv wr=>∃(i:Nat) (v:Value),iv=.int .i64 (i:Int)∧i≤n∧Hid (TI w K S R T B P F cs i v wr)) (fun iv _=>n-(intOf iv).toNat)
 case atStart =>
  exact ⟨0,.slice none 0 0,rfl,Nat.zero_le _,TI.start _ _ _ _ _ _ _ _ _ _ _⟩
 case round =>
  obtain ⟨i,v,rfl,hi,HI⟩:=hrel
  have hxy:xb≠yb:=by omega
  have hX:wr.heap[xb]?=some (.cells #[.string K,.string S,.string R,.string T,.int .i64 B,.int .i64 P,.int .i64 F,v] 29 (0,0)):=by rw [←hxb];exact HI.out.x
  have hY:wr.heap[yb]?=some (.cells #[.string ⟨#[]⟩,.string ⟨#[]⟩,.string ⟨#[]⟩,.string ⟨#[]⟩,.int .i64 0,.int .i64 0,.int .i64 0,.slice none 0 0] 29 (0,0)):=by rw [←hyb];exact HI.out.y
  by_cases hlt:i<n
  ·have hic:i<cs.length:=by have:=hnn.out;omega
   obtain ⟨c,hc⟩:∃c,Hid (cs[i]=c):=⟨cs[i],(rfl:cs[i]=cs[i])⟩
   have hq:∀j,j<4→wr.cell? ⟨g,i*4+j,none⟩=(comV c)[j]?:=fun j hj=>by
    have h1:=own_cell HV.out i j hj hic
    rw [com_cells cs i j hic hj,hc.out] at h1
    obtain ⟨hj1,hj2⟩:∃u,(comV c)[j]?=some u:=by
     have:j<(comV c).length:=by simp [comV];omega
     exact ⟨_,List.getElem?_eq_getElem this⟩
    rw [hj2] at h1 ⊢
    exact (HI.out.below.cell (lt_of_cell h1)).trans h1
   have q0:wr.cell? ⟨g,i*4,none⟩=some (.string ⟨c.sp.toArray⟩):=hq 0 (by omega)
   have q1:wr.cell? ⟨g,i*4+1,none⟩=some (.string ⟨c.raw.toArray⟩):=hq 1 (by omega)
   have q2:wr.cell? ⟨g,i*4+2,none⟩=some (.int .i64 (c.pos:Int)):=hq 2 (by omega)
   have q3:wr.cell? ⟨g,i*4+3,none⟩=some (.int .i64 (c.fin:Int)):=hq 3 (by omega)
   have hz:(i:Int)<(n:Int):=by omega
   clear hq
   have d7:∀o,(wr.alloc o).cell? ⟨xb,7,none⟩=some v:=fun o=>(cell_alloc_old wr o (lt_of_heap hX) 7).trans (cells_of_heap hX 7)
   have hnew:∀a b,((wr.alloc a).alloc b).heap[wr.heap.size+1]?=some b:=fun a b=>by
    have:=heap_alloc_new (wr.alloc a) b
    simpa using this
   obtain ⟨i0,hi0,hz0,hz1,hz2⟩:=info_parts comInfo31
   have hbs:w.heap.size+3≤wr.heap.size:=HI.out.size
   have hw1:=IntWalk.i64_in ((i:Int)+1) (by omega)
   have hxlt:=lt_of_heap hX
   go_wp2_with (at_builtin;refine wpList_append_lies _ rfl _ _ 27 rfl (w.heap.size+3) 31 i0 _ 4 48 Tryz.underlying27 hi0 hz0 hz1 hz2 rfl (by decide) v i ((cs.take i).flatMap comV) rfl ((HI.out.row.alloc _).alloc _) ⟨wr.heap.size+1,0,none⟩ 1 1 (comV c) rfl rfl (World.news_of_block (hnew _ _)) (by simp [comV,Value.oneCell']) (by decide) (by unfold maxLen;omega) (by omega) (by simp;omega) _ rfl ?_;intro g2 cap2 w2 hown hgrow hat hlt2;have HST:=Lib.hid (TI.step HI.out hic hc.out hown hgrow);have e7:w2.cell? ⟨xb,7,none⟩=some v:=(World.cell?_of_block (hgrow.block xb (by simp;omega) (fun e=>by have:=(HI.out.row.lt xb e.symm).1;omega))).trans ((cell_alloc_old _ _ (by simp;omega) 7).trans (d7 _));have f7:w2.frozen? ⟨xb,7,none⟩=false:=(World.frozen?_of_block (hgrow.block xb (by simp;omega) (fun e=>by have:=(HI.out.row.lt xb e.symm).1;omega))).trans ((World.frozen?_of_block (heap_alloc_old _ _ (by simp;omega))).trans ((World.frozen?_of_block (heap_alloc_old _ _ (by omega))).trans (free_of_heap hX 7)));clear hown hgrow hat hlt2)
   go_round
   case rel =>
    have HST':Hid (TI w K S R T B P F cs (i+1) (.slice (some ⟨g2,0,none⟩) (i+1) cap2) (w2.setCell ⟨xb,7,none⟩ (.slice (some ⟨g2,0,none⟩) (i+1) cap2))):=by rw [←hxb];exact HST
    exact ⟨i+1,_,by go_num,by omega,HST'⟩
   case measure=>simp [intOf];omega
  ·have hz:¬(i:Int)<(n:Int):=by omega
   have x0:wr.cell? ⟨xb,0,none⟩=some (.string K):=cells_of_heap hX 0
   have x1:wr.cell? ⟨xb,1,none⟩=some (.string S):=cells_of_heap hX 1
   have x2:wr.cell? ⟨xb,2,none⟩=some (.string R):=cells_of_heap hX 2
   have x3:wr.cell? ⟨xb,3,none⟩=some (.string T):=cells_of_heap hX 3
   have x4:wr.cell? ⟨xb,4,none⟩=some (.int .i64 B):=cells_of_heap hX 4
   have x5:wr.cell? ⟨xb,5,none⟩=some (.int .i64 P):=cells_of_heap hX 5
   have x6:wr.cell? ⟨xb,6,none⟩=some (.int .i64 F):=cells_of_heap hX 6
   have x7:wr.cell? ⟨xb,7,none⟩=some v:=cells_of_heap hX 7
   have y0:wr.cell? ⟨yb,0,none⟩=some (.string ⟨#[]⟩):=cells_of_heap hY 0
   have y1:wr.cell? ⟨yb,1,none⟩=some (.string ⟨#[]⟩):=cells_of_heap hY 1
   have y2:wr.cell? ⟨yb,2,none⟩=some (.string ⟨#[]⟩):=cells_of_heap hY 2
   have y3:wr.cell? ⟨yb,3,none⟩=some (.string ⟨#[]⟩):=cells_of_heap hY 3
   have y4:wr.cell? ⟨yb,4,none⟩=some (.int .i64 0):=cells_of_heap hY 4
   have y5:wr.cell? ⟨yb,5,none⟩=some (.int .i64 0):=cells_of_heap hY 5
   have y6:wr.cell? ⟨yb,6,none⟩=some (.int .i64 0):=cells_of_heap hY 6
   have y7:wr.cell? ⟨yb,7,none⟩=some (.slice none 0 0):=cells_of_heap hY 7
   have gy:∀j,wr.frozen? ⟨yb,j,none⟩=false:=fun j=>free_of_heap hY j
   rcases HI.out.row.2 with ⟨hv,hv0⟩|⟨g2,cap2,cur,hv,_⟩
   ·subst hv
    go_wp2_with fail
    show bodyPost _ _ _ .ret _ (put8 wr yb (.string K) (.string S) (.string R) (.string T) (.int .i64 B) (.int .i64 P) (.int .i64 F) (.slice none 0 0))
    exact bodyPost_ret (to_results rfl (put8_heap hY _ _ _ _ _ _ _ _)) rfl ⟨_,rfl,TI.done HI.out hyb (by omega) hnn.out (put8_grown _ _ _ _ _ _ _ _ _ _)⟩
   ·subst hv
    go_wp2_with fail
    show bodyPost _ _ _ .ret _ (put8 wr yb (.string K) (.string S) (.string R) (.string T) (.int .i64 B) (.int .i64 P) (.int .i64 F) (.slice (some ⟨g2,0,none⟩) i cap2))
    exact bodyPost_ret (to_results rfl (put8_heap hY _ _ _ _ _ _ _ _)) rfl ⟨_,rfl,TI.done HI.out hyb (by omega) hnn.out (put8_grown _ _ _ _ _ _ _ _ _ _)⟩
set_option maxHeartbeats 4000000 in
set_option maxRecDepth 100000 in
theorem to_nil {w:World} (K S R T:ByteArray) (B P F:Int) :
  Calls Tryz.prog 30 #[.agg #[.string K,.slice none 0 0,.string S,.string R,.string T,.int .i64 B,.int .i64 P,.int .i64 F]] w fun e w'=>∃v',e=.returned (.agg #[.string K,.string S,.string R,.string T,.int .i64 B,.int .i64 P,.int .i64 F,v'])∧w'.ownsRow w.heap.size 31 4 v' 0 (([]:List lx.Cm).flatMap comV)∧Below w.heap.size w w':=by
 go_enter Tryz.func30,Tryz.ntmps30
 go_wp2_with fail
 obtain ⟨yb,hyb⟩:∃yb,w.heap.size+1=yb:=⟨_,rfl⟩
 obtain ⟨xb,hxb⟩:∃xb,w.heap.size+2=xb:=⟨_,rfl⟩
 rw [show w.heap.size+1+1=xb from by omega,hyb]
 go_loopw [24] (fun iv wr=>iv=.int .i64 0∧Hid (TI w K S R T B P F [] 0 (.slice none 0 0) wr)) (fun _ _=>0)
 case atStart =>
  exact ⟨rfl,TI.start _ _ _ _ _ _ _ _ _ _ _⟩
 case round =>
  obtain ⟨rfl,HI⟩:=hrel
  have hxy:xb≠yb:=by omega
  have hX:wr.heap[xb]?=some (.cells #[.string K,.string S,.string R,.string T,.int .i64 B,.int .i64 P,.int .i64 F,.slice none 0 0] 29 (0,0)):=by rw [←hxb];exact HI.out.x
  have hY:wr.heap[yb]?=some (.cells #[.string ⟨#[]⟩,.string ⟨#[]⟩,.string ⟨#[]⟩,.string ⟨#[]⟩,.int .i64 0,.int .i64 0,.int .i64 0,.slice none 0 0] 29 (0,0)):=by rw [←hyb];exact HI.out.y
  have x0:wr.cell? ⟨xb,0,none⟩=some (.string K):=cells_of_heap hX 0
  have x1:wr.cell? ⟨xb,1,none⟩=some (.string S):=cells_of_heap hX 1
  have x2:wr.cell? ⟨xb,2,none⟩=some (.string R):=cells_of_heap hX 2
  have x3:wr.cell? ⟨xb,3,none⟩=some (.string T):=cells_of_heap hX 3
  have x4:wr.cell? ⟨xb,4,none⟩=some (.int .i64 B):=cells_of_heap hX 4
  have x5:wr.cell? ⟨xb,5,none⟩=some (.int .i64 P):=cells_of_heap hX 5
  have x6:wr.cell? ⟨xb,6,none⟩=some (.int .i64 F):=cells_of_heap hX 6
  have x7:wr.cell? ⟨xb,7,none⟩=some (.slice none 0 0):=cells_of_heap hX 7
  have y0:wr.cell? ⟨yb,0,none⟩=some (.string ⟨#[]⟩):=cells_of_heap hY 0
  have y1:wr.cell? ⟨yb,1,none⟩=some (.string ⟨#[]⟩):=cells_of_heap hY 1
  have y2:wr.cell? ⟨yb,2,none⟩=some (.string ⟨#[]⟩):=cells_of_heap hY 2
  have y3:wr.cell? ⟨yb,3,none⟩=some (.string ⟨#[]⟩):=cells_of_heap hY 3
  have y4:wr.cell? ⟨yb,4,none⟩=some (.int .i64 0):=cells_of_heap hY 4
  have y5:wr.cell? ⟨yb,5,none⟩=some (.int .i64 0):=cells_of_heap hY 5
  have y6:wr.cell? ⟨yb,6,none⟩=some (.int .i64 0):=cells_of_heap hY 6
  have y7:wr.cell? ⟨yb,7,none⟩=some (.slice none 0 0):=cells_of_heap hY 7
  have gy:∀j,wr.frozen? ⟨yb,j,none⟩=false:=fun j=>free_of_heap hY j
  go_wp2_with fail
  show bodyPost _ _ _ .ret _ (put8 wr yb (.string K) (.string S) (.string R) (.string T) (.int .i64 B) (.int .i64 P) (.int .i64 F) (.slice none 0 0))
  exact bodyPost_ret (to_results rfl (put8_heap hY _ _ _ _ _ _ _ _)) rfl ⟨_,rfl,TI.done HI.out hyb rfl rfl (put8_grown _ _ _ _ _ _ _ _ _ _)⟩
/-- A token as plain data. -/
theorem tokenOf_any {w:World} {b0:Nat} {v:Value} (K S R T:ByteArray) (B P F:Int) (cs:List lx.Cm) (hv:w.ownsRow b0 88 4 v cs.length (cs.flatMap comV)) (hn:cs.length≤20000) :
  Calls Tryz.prog 30 #[.agg #[.string K,v,.string S,.string R,.string T,.int .i64 B,.int .i64 P,.int .i64 F]] w fun e w'=>∃v',e=.returned (.agg #[.string K,.string S,.string R,.string T,.int .i64 B,.int .i64 P,.int .i64 F,v'])∧w'.ownsRow w.heap.size 31 4 v' cs.length (cs.flatMap comV)∧Below w.heap.size w w':=by
 rcases hv.2 with ⟨rfl,h0⟩|⟨g,cap,cur,rfl,_⟩
 ·have hcs:cs=[]:=List.length_eq_zero_iff.1 h0
  subst hcs
  exact to_nil K S R T B P F
 ·exact to_some K S R T B P F g cap cs hv hn
end Go.Proofs.YtaamolahbkgofaaGreatDoor.lex
namespace Go.Proofs.YtaamolahbkgofaaGreatDoor.lx
open lex
theorem ahead_le:∀(n:Nat) (t:Bs),t.length≤n→(∀a,(ahead t).2=some a→comsLen (ahead t).1+a≤t.length)∧((ahead t).2=none→comsLen (ahead t).1=t.length∧1≤t.length)
 | n,t,hn=>by
  have hs:=spaces_le t
  cases hc:comment (t.drop (spaces t)) with
  | no =>
   rw [ahead_no hc]
   exact ⟨fun a h=>(by cases h;simpa [comsLen] using hs),fun h=>(by cases h)⟩
  | open_ =>
   rw [ahead_open hc]
   refine ⟨fun a h=>(by cases h),fun _=>?_⟩
   have h1:t.drop (spaces t)≠[]:=by
    intro e
    rw [e,comment_nil] at hc
    cases hc
   have h2:1≤(t.drop (spaces t)).length:=by
    cases hd:t.drop (spaces t) with
    | nil=>exact absurd hd h1
    | cons c r=>simp
   simp only [comsLen,List.length_drop] at h2 ⊢
   omega
  | some m =>
   have hm:=comment_size hc
   rw [List.length_drop] at hm
   rw [ahead_some hc]
   cases n with
   | zero=>omega
   | succ n =>
    have ih:=ahead_le n (t.drop (spaces t+m)) (by rw [List.length_drop];omega)
    rw [List.length_drop] at ih
    refine ⟨fun a h=>?_,fun h=>?_⟩
    ·have:=ih.1 a h
     simp only [comsLen]
     omega
    ·have:=ih.2 h
     simp only [comsLen]
     omega
theorem encode_length (n:Nat):(Lib.encodeRune (n:Int)).length≤4:=by
 unfold Lib.encodeRune Lib.encodeRuneZ
 repeat' split
 all_goals simp
theorem escape_more {np:Bool} {size:Nat} {good:UInt8→Bool} {r content c':Bs} {hit:Step} {k:Nat} {e':Bool} (h:escape np size good r content hit=.more k c' e'):(size≤r.length∧hit=.more k c' e')∨(np=true∧k=2∧c'=content):=by
 unfold escape at h
 split at h
 ·rename_i hh
  exact .inl ⟨hh.1,h⟩
 ·split at h
  ·split at h
   ·cases h
   ·rename_i hn _
    cases h
    exact .inr ⟨hn,rfl,rfl⟩
  ·split at h <;> cases h
theorem escape_stop {np:Bool} {size:Nat} {good:UInt8→Bool} {r content:Bs} {hit:Step} {o:QOut} (h:escape np size good r content hit=.stop o):hit=.stop o∨o=.crash∨o=.fault:=by
 unfold escape at h
 split at h
 ·exact .inl h
 ·split at h
  ·split at h
   ·cases h;exact .inr (.inl rfl)
   ·cases h
  ·split at h
   ·cases h;exact .inr (.inl rfl)
   ·cases h;exact .inr (.inr rfl)
theorem qStep_more {q:Bs} {raw uni idn np:Bool} {i k:Nat} {u content c':Bs} {err e':Bool} (h:qStep q raw uni idn np i u content err=.more k c' e') :
  1≤k∧k≤u.length∧c'.length≤content.length+k∧(np=false→e'=err):=by
 unfold qStep at h
 cases u with
 | nil=>simp only at h;split at h <;> cases h
 | cons c r =>
  simp only at h
  split at h
  ·split at h
   iterate 2
    ·split at h <;> cases h
  ·split at h
   ·cases r with
    | nil=>simp only at h;split at h <;> cases h
    | cons d r' =>
     simp only at h
     split at h
     ·cases h
      simp
     ·split at h
      ·cases h
       simp
      ·split at h
       ·rcases escape_more h with ⟨h1,h2⟩|⟨h1,h2,h3⟩
        ·cases h2
         simp
         omega
        ·subst h2 h3
         simp [h1]
       ·split at h
        ·split at h
         ·have hsz:4≤(if d.toNat=85 then 8 else 4):=by split <;> omega
          generalize (if d.toNat=85 then 8 else 4)=sz at h hsz
          rcases escape_more h with ⟨h1,h2⟩|⟨h1,h2,h3⟩
          ·split at h2
           ·split at h2
            ·cases h2
             rename_i hn
             simp [hn]
            ·cases h2
           ·cases h2
            have:=encode_length (digits 16 0 (r'.take sz))
            simp only [List.length_cons,List.length_append]
            exact ⟨by omega,by omega,by omega,fun _=>trivial⟩
          ·subst h2 h3
           simp [h1]
         ·split at h
          ·cases h
           rename_i hn
           simp [hn]
          ·cases h
        ·split at h
         ·rcases escape_more h with ⟨h1,h2⟩|⟨h1,h2,h3⟩
          ·cases h2
           simp
           omega
          ·subst h2 h3
           simp [h1]
         ·split at h
          ·cases h
           rename_i hn
           simp [hn]
          ·cases h
   ·split at h
    ·split at h
     ·cases h
      rename_i hn
      simp [hn]
     ·cases h
    ·cases h
     simp
theorem take_len {q u:Bs} (h:u.take q.length=q):q.length≤u.length:=by
 have:=congrArg List.length h
 rw [List.length_take] at this
 omega
theorem qStep_stop {q:Bs} {raw uni idn np:Bool} {i:Nat} {u content:Bs} {err:Bool} {o:QOut} (h:qStep q raw uni idn np i u content err=.stop o) :
  (∃len c,o=.ok len c∧u.take q.length=q∧len=i+q.length∧c=content∧(idn=true→c≠[]))∨(∃len,o=.bad len∧(np=true∨err=true)∧i≤len∧len≤i+u.length)∨o=.fault∨o=.crash:=by
 unfold qStep at h
 cases u with
 | nil =>
  simp only at h
  split at h
  ·rename_i hn
   cases h
   exact .inr (.inl ⟨_,rfl,.inl hn,Nat.le_refl _,Nat.le_add_right _ _⟩)
  ·cases h
   exact .inr (.inr (.inl rfl))
 | cons c r =>
  simp only at h
  split at h
  ·rename_i hq
   have hl:=take_len hq
   split at h
   ·split at h
    ·rename_i hn
     cases h
     exact .inr (.inl ⟨_,rfl,.inl hn,Nat.le_add_right _ _,by omega⟩)
    ·cases h
     exact .inr (.inr (.inl rfl))
   ·rename_i hci
    split at h
    ·rename_i he
     cases h
     exact .inr (.inl ⟨_,rfl,.inr he,Nat.le_add_right _ _,by omega⟩)
    ·cases h
     exact .inl ⟨_,_,rfl,hq,rfl,rfl,fun hi hc=>hci ⟨hc,hi⟩⟩
  ·split at h
   ·cases r with
    | nil =>
     simp only at h
     split at h
     ·rename_i hn
      cases h
      exact .inr (.inl ⟨_,rfl,.inl hn,Nat.le_add_right _ _,by simp⟩)
     ·cases h
      exact .inr (.inr (.inl rfl))
    | cons d r' =>
     simp only at h
     split at h
     ·cases h
     ·split at h
      ·cases h
      ·split at h
       ·rcases escape_stop h with h1|h1|h1
        ·cases h1
        ·exact .inr (.inr (.inr h1))
        ·exact .inr (.inr (.inl h1))
       ·split at h
        ·split at h
         ·generalize (if d.toNat=85 then 8 else 4)=sz at h
          rcases escape_stop h with h1|h1|h1
          ·split at h1
           ·split at h1
            ·cases h1
            ·cases h1
             exact .inr (.inr (.inl rfl))
           ·cases h1
          ·exact .inr (.inr (.inr h1))
          ·exact .inr (.inr (.inl h1))
         ·split at h
          ·cases h
          ·cases h
           exact .inr (.inr (.inl rfl))
        ·split at h
         ·rcases escape_stop h with h1|h1|h1
          ·cases h1
          ·exact .inr (.inr (.inr h1))
          ·exact .inr (.inr (.inl h1))
         ·split at h
          ·cases h
          ·cases h
           exact .inr (.inr (.inl rfl))
   ·split at h
    ·split at h
     ·cases h
     ·cases h
      exact .inr (.inr (.inl rfl))
    ·cases h
/-- What is known of a quoted token's inside that is read. -/
theorem quoN_ok {q:Bs} {raw uni idn np:Bool} {t:Bs}:∀(n i:Nat) (u content:Bs) (err:Bool) (len:Nat) (c:Bs),u=t.drop i→i≤t.length→quoN q raw uni idn np n i u content err=.ok len c →
  ∃j,i≤j∧len=j+q.length∧(t.drop j).take q.length=q∧len≤t.length∧(content.length+q.length≤i→c.length+q.length≤j)∧(idn=true→c≠[])
 | 0,_,_,_,_,_,_,_,_,h=>by cases h
 | n+1,i,u,content,err,len,c,hu,hi,h=>by
  unfold quoN at h
  cases hs:qStep q raw uni idn np i u content err with
  | stop o =>
   rw [hs] at h
   simp only at h
   subst h
   rcases qStep_stop hs with ⟨l,c',ho,h1,h2,h3,h4⟩|⟨l,ho,_⟩|ho|ho
   ·cases ho
    subst hu
    have:=take_len h1
    rw [List.length_drop] at this
    exact ⟨i,Nat.le_refl _,h2,h1,by omega,fun k=>by rw [h3];exact k,h4⟩
   iterate 3
    ·cases ho
  | more k c' e' =>
   rw [hs] at h
   simp only at h
   have hm:=qStep_more hs
   subst hu
   rw [List.length_drop] at hm
   obtain ⟨j,h1,h2,h3,h4,h5,h6⟩:=quoN_ok n (i+k) ((t.drop i).drop k) c' e' len c (by rw [List.drop_drop]) (by omega) h
   exact ⟨j,by omega,h2,h3,h4,fun hk=>h5 (by omega),h6⟩
theorem quoN_bad {q:Bs} {raw uni idn np:Bool} {t:Bs}:∀(n i:Nat) (u content:Bs) (err:Bool) (len:Nat),u=t.drop i→i≤t.length→(np=false→err=false)→quoN q raw uni idn np n i u content err=.bad len →
  np=true∧i≤len∧len≤t.length
 | 0,_,_,_,_,_,_,_,_,h=>by cases h
 | n+1,i,u,content,err,len,hu,hi,he,h=>by
  unfold quoN at h
  cases hs:qStep q raw uni idn np i u content err with
  | stop o =>
   rw [hs] at h
   simp only at h
   subst h
   rcases qStep_stop hs with ⟨l,c',ho,_⟩|⟨l,ho,h1,h2,h3⟩|ho|ho
   ·cases ho
   ·cases ho
    subst hu
    rw [List.length_drop] at h3
    refine ⟨?_,h2,by omega⟩
    cases np with
    | true=>rfl
    | false =>
     rcases h1 with h1|h1
     ·exact h1
     ·rw [he rfl] at h1
      exact h1
   iterate 2
    ·cases ho
  | more k c' e' =>
   rw [hs] at h
   simp only at h
   have hm:=qStep_more hs
   subst hu
   rw [List.length_drop] at hm
   obtain ⟨h1,h2,h3⟩:=quoN_bad n (i+k) ((t.drop i).drop k) c' e' len (by rw [List.drop_drop]) (by omega) (fun hn=>by rw [hm.2.2.2 hn];exact he hn) h
   exact ⟨h1,by omega,h3⟩
theorem quoted_ok {q:Bs} {raw uni idn np:Bool} {t:Bs} {len:Nat} {c:Bs} (hq:q.length≤t.length) (h:quoted q raw uni idn np t=.ok len c) :
  ∃j,q.length≤j∧len=j+q.length∧(t.drop j).take q.length=q∧len≤t.length∧c.length+q.length≤j∧(idn=true→c≠[]):=by
 unfold quoted at h
 obtain ⟨j,h1,h2,h3,h4,h5,h6⟩:=quoN_ok (t.length+1) q.length (t.drop q.length) [] false len c rfl hq h
 exact ⟨j,h1,h2,h3,h4,h5 (by simp),h6⟩
theorem quoted_bad {q:Bs} {raw uni idn np:Bool} {t:Bs} {len:Nat} (hq:q.length≤t.length) (h:quoted q raw uni idn np t=.bad len):np=true∧q.length≤len∧len≤t.length:=by
 unfold quoted at h
 exact quoN_bad (t.length+1) q.length (t.drop q.length) [] false len rfl hq (fun _=>rfl) h
end Go.Proofs.YtaamolahbkgofaaGreatDoor.lx
namespace Go.Proofs.YtaamolahbkgofaaGreatDoor.lx
open lex
def Good (np:Bool) (t:Bs):Out→Prop
 | .tok k len _ _ _=>len≤t.length∧(k=kEof→t=[])∧(t≠[]→1≤len)∧k≠kBad
 | .bad len=>np=true∧1≤len∧len≤t.length
 | .fault=>True
 | .crash=>True
theorem nb_lt {t:Bs} {i:Nat} (h:nb t i<256):i<t.length:=by
 unfold nb at h
 split at h
 ·rename_i c hc
  exact (List.getElem?_eq_some_iff.1 hc).1
 ·omega
theorem numScan_pos {n:Nat} {c:UInt8} {r:Bs} (h:dig c=true∨c.toNat=46):1≤(numScan false (n+1) true false (c::r)).1:=by
 unfold numScan
 cases hd:dig c with
 | true=>simp
 | false =>
  rcases h with h|h
  ·rw [hd] at h;cases h
  ·simp [h]
theorem number_good (np:Bool) {c:UInt8} {r:Bs} (h:dig c=true∨c.toNat=46):Good np (c::r) (number np (c::r)):=by
 unfold number
 simp only
 cases hb:(decide (nb (c::r) 0=48)&&(decide (nb (c::r) 1=120)||decide (nb (c::r) 1=88))) with
 | true =>
  have h2:1<(c::r).length:=by
   apply nb_lt
   simp at hb
   omega
  have hl:=numScan_le true (c::r).length true false ((c::r).drop 2)
  rw [List.length_drop] at hl
  simp only [if_true]
  split
  ·split
   ·exact ⟨by assumption,by simp,by show _+2≤_;omega⟩
   ·trivial
  ·split
   iterate 2
    ·exact ⟨by show _+2≤_;omega,fun e=>absurd e (by decide),fun _=>by show 1≤_+2;omega,by decide⟩
 | false =>
  have hl:=numScan_le false (c::r).length true false (c::r)
  have hp:1≤(numScan false (c::r).length true false (c::r)).1:=numScan_pos h
  simp only [Bool.false_eq_true,if_false]
  split
  ·split
   ·exact ⟨by assumption,hp,hl⟩
   ·trivial
  ·split
   iterate 2
    ·exact ⟨hl,fun e=>absurd e (by decide),fun _=>hp,by decide⟩
theorem idLen_le:∀t:Bs,idLen t≤t.length
 | []=>Nat.le_refl _
 | c::r=>by
  have:=idLen_le r
  unfold idLen
  split
  ·simp;omega
  ·omega
theorem idS_P {n:Nat} (h:isIdS n=true):isId n=true:=by
 simp only [isIdS,isId,decide_eq_true_eq] at h ⊢
 omega
theorem idLen_pos {t:Bs} (h:isId (nb t 0)=true):1≤idLen t:=by
 cases t with
 | nil=>exact absurd h (by decide)
 | cons c r =>
  unfold idLen
  rw [if_pos (by exact h)]
  omega
theorem kws_not:kEof∉kws∧kBad∉kws:=by decide
theorem keyword_not {k:Bs} (h:keyword k=true):k≠kEof∧k≠kBad:=by
 have hm:k∈kws:=by simpa [keyword] using h
 exact ⟨fun e=>kws_not.1 (e▸hm),fun e=>kws_not.2 (e▸hm)⟩
theorem word_good (np:Bool) {t:Bs} (ht:t≠[]):Good np t (word np t):=by
 unfold word
 split
 ·rename_i h
  have hp:=idLen_pos (idS_P h)
  split
  ·rename_i hk
   have hn:=keyword_not hk
   exact ⟨idLen_le t,fun e=>absurd e hn.1,fun _=>hp,hn.2⟩
  ·exact ⟨idLen_le t,fun e=>absurd e (by decide),fun _=>hp,by decide⟩
 ·split
  ·rename_i hn
   refine ⟨hn,Nat.le_refl _, ?_⟩
   cases t with
   | nil=>exact absurd rfl ht
   | cons c r=>simp
  ·trivial
theorem len_ne {k:Bs} (h:k.length≤2):k≠kEof∧k≠kBad:=⟨fun e=>by rw [e] at h;exact absurd h (by decide),fun e=>by rw [e] at h;exact absurd h (by decide)⟩
theorem sign2_good (np:Bool) (c0:UInt8) (r:Bs) (c:UInt8):∀ds:Bs,Good np (c0::r) (sign2 (c0::r) c ds)
 | []=>⟨by simp,fun e=>absurd e (len_ne (by simp)).1,fun _=>Nat.le_refl _,(len_ne (by simp)).2⟩
 | d::ds=>by
  unfold sign2
  split
  ·rename_i h
   have:1<(c0::r).length:=nb_lt (by rw [h];exact d.toNat_lt)
   exact ⟨by omega,fun e=>absurd e (len_ne (by simp)).1,fun _=>by decide,(len_ne (by simp)).2⟩
  ·exact sign2_good np c0 r c ds
theorem ofQ_good {np:Bool} {t:Bs} {k q:Bs} {raw uni idn:Bool} {i:Nat} (hk:k≠kEof∧k≠kBad) (hq:q.length≤(t.drop i).length) (h1:1≤q.length):Good np t (ofQ k i (quoted q raw uni idn np (t.drop i))):=by
 cases hr:quoted q raw uni idn np (t.drop i) with
 | ok len c =>
  obtain ⟨j,a1,a2,a3,a4,a5,a6⟩:=quoted_ok hq hr
  rw [List.length_drop] at a4 hq
  exact ⟨by omega,fun e=>absurd e hk.1,fun _=>by omega,hk.2⟩
 | bad len =>
  have hb:=quoted_bad hq hr
  rw [List.length_drop] at hb hq
  exact ⟨hb.1,by omega,by omega⟩
 | fault=>trivial
 | crash=>trivial
theorem delim_le {t:Bs} (h:t≠[]):1≤(delim t).length∧(delim t).length≤t.length:=by
 cases t with
 | nil=>exact absurd rfl h
 | cons c r =>
  unfold delim
  simp only
  split
  ·rename_i hh
   have:1<r.length:=nb_lt (by rw [hh.2];exact c.toNat_lt)
   simp
   omega
  ·simp
theorem prefx_some:∀(n:Nat) (by_ ra:Bool) (t:Bs) (x:Bool × Bool × Nat),prefx n by_ ra t=some x→x.2.2<t.length
 | 0,_,_,_,_,h=>by cases h
 | n+1,_,_,[],_,h=>by cases h
 | n+1,by_,ra,c::r,x,h=>by
  unfold prefx at h
  split at h
  ·cases hp:prefx n true ra r with
   | none=>rw [hp] at h;cases h
   | some y =>
    rw [hp] at h
    have:=prefx_some n true ra r y hp
    cases h
    simp
    omega
  ·split at h
   ·cases hp:prefx n by_ true r with
    | none=>rw [hp] at h;cases h
    | some y =>
     rw [hp] at h
     have:=prefx_some n by_ true r y hp
     cases h
     simp
     omega
   ·split at h
    ·cases h
     simp
    ·cases h
theorem strTok_good (np by_ ra:Bool) {t:Bs} {i:Nat} (hi:i<t.length):Good np t (strTok by_ ra np i t):=by
 have hne:t.drop i≠[]:=by
  intro e
  have:=congrArg List.length e
  rw [List.length_drop] at this
  simp at this
  omega
 have hd:=delim_le hne
 unfold strTok
 refine ofQ_good ?_ hd.2 hd.1
 split <;> decide
theorem token_eq (np:Bool) (last:Bs) (c:UInt8) (r:Bs):token np last (c::r) =
  if c∈([40,41,123,125,59,44,91,93,126,42,47,38,94,37,58,63,92,36]:Bs) then .tok [c] 1 [] 0 none
  else if c=46 then (if dotKind last=false∧isDg (nb r 0)=true then number np (c::r) else .tok [46] 1 [] 0 (some (dotKind last)))
  else if c=60 then sign2 (c::r) 60 [60,61,62]
  else if c=62 then sign2 (c::r) 62 [62,61]
  else if c=43 then sign2 (c::r) 43 [61]
  else if c=45 then sign2 (c::r) 45 [61,62]
  else if c=61 then sign2 (c::r) 61 [62]
  else if c=124 then sign2 (c::r) 124 [62,124]
  else if c=33 then sign2 (c::r) 33 [61]
  else if c=64 then
   (if nb r 0=64 then .tok [64,64] 2 [] 0 none
   else if isIdS (nb r 0) then .tok kParam (1+idLen r) (r.take (idLen r)) 0 none
   else .tok [64] 1 [] 0 none)
  else if c=96 then ofQ kIdent 0 (quoted [96] false true true np (c::r))
  else if dig c then number np (c::r)
  else if c∈([66,98,82,114,34,39]:Bs) then
   (match prefx 3 false false (c::r) with
   | some (by_,ra,i)=>strTok by_ ra np i (c::r)
   | none=>word np (c::r))
  else word np (c::r):=rfl
theorem tok1_good (np:Bool) (c:UInt8) (r:Bs) (d:Option Bool):Good np (c::r) (.tok [c] 1 [] 0 d) :=
 ⟨by simp,fun e=>absurd e (len_ne (by simp)).1,fun _=>Nat.le_refl _,(len_ne (by simp)).2⟩
theorem ite_good {np:Bool} {t:Bs} {p:Prop} [Decidable p] {a b:Out} (h1:p→Good np t a) (h2:¬p→Good np t b):Good np t (if p then a else b):=by
 by_cases h:p
 ·rw [if_pos h]
  exact h1 h
 ·rw [if_neg h]
  exact h2 h
theorem token_good (np:Bool) (last:Bs):∀t:Bs,Good np t (token np last t)
 | []=>⟨Nat.le_refl _,fun _=>rfl,fun h=>absurd rfl h,by decide⟩
 | c::r=>by
  have hne:c::r≠[]:=by simp
  rw [token_eq]
  refine ite_good (fun _=>tok1_good np c r _) fun _=>?_
  refine ite_good (fun h46=>ite_good (fun _=>number_good np (.inr (by rw [h46];rfl))) (fun _=>by subst h46;exact tok1_good np 46 r _)) fun _=>?_
  refine ite_good (fun _=>sign2_good np c r _ _) fun _=>?_
  refine ite_good (fun _=>sign2_good np c r _ _) fun _=>?_
  refine ite_good (fun _=>sign2_good np c r _ _) fun _=>?_
  refine ite_good (fun _=>sign2_good np c r _ _) fun _=>?_
  refine ite_good (fun _=>sign2_good np c r _ _) fun _=>?_
  refine ite_good (fun _=>sign2_good np c r _ _) fun _=>?_
  refine ite_good (fun _=>sign2_good np c r _ _) fun _=>?_
  refine ite_good (fun _=>ite_good (fun h64=>?_) fun _=>ite_good (fun _=>?_) fun _=>?_) fun _=>?_
  ·have:0<r.length:=nb_lt (by rw [h64];decide)
   exact ⟨by simp;omega,fun e=>absurd e (by decide),fun _=>by decide,by decide⟩
  ·have:=idLen_le r
   exact ⟨by simp;omega,fun e=>absurd e (by decide),fun _=>by omega,by decide⟩
  ·exact ⟨by simp,fun e=>absurd e (by decide),fun _=>by decide,by decide⟩
  refine ite_good (fun _=>ofQ_good (i:=0) ⟨by decide,by decide⟩ (by simp) (by simp)) fun _=>?_
  refine ite_good (fun hd=>number_good np (.inl hd)) fun _=>?_
  refine ite_good (fun _=>?_) (fun _=>word_good np hne)
  cases hp:prefx 3 false false (c::r) with
  | none=>exact word_good np hne
  | some x =>
   obtain ⟨by_,ra,i⟩:=x
   exact strTok_good np by_ ra (prefx_some 3 false false (c::r) _ hp)
theorem field_good (np:Bool) (last t:Bs):Good np t (field np last t):=by
 unfold field
 split
 ·rename_i h
  exact ⟨idLen_le t,fun e=>absurd e (by decide),fun _=>idLen_pos h,by decide⟩
 ·exact token_good np last t
theorem own_good (np:Bool) (last:Bs) (dot:Bool) (t:Bs):Good np t (own np last dot t):=by
 unfold own
 split
 ·exact field_good np last t
 ·exact token_good np last t
end Go.Proofs.YtaamolahbkgofaaGreatDoor.lx
namespace Go.Proofs.YtaamolahbkgofaaGreatDoor.lx
open lex
theorem ahead_count:∀(n:Nat) (t:Bs),t.length≤n→(ahead t).1.length≤comsLen (ahead t).1
 | n,t,hn=>by
  cases hc:comment (t.drop (spaces t)) with
  | no =>
   rw [ahead_no hc]
   exact Nat.le_refl _
  | open_ =>
   rw [ahead_open hc]
   have h1:1≤(t.drop (spaces t)).length:=by
    cases hd:t.drop (spaces t) with
    | nil=>rw [hd,comment_nil] at hc;cases hc
    | cons c r=>simp
   simp only [comsLen,List.length_cons,List.length_nil]
   omega
  | some m =>
   have hm:=comment_size hc
   rw [List.length_drop] at hm
   rw [ahead_some hc]
   cases n with
   | zero=>omega
   | succ n =>
    have ih:=ahead_count n (t.drop (spaces t+m)) (by rw [List.length_drop];omega)
    simp only [comsLen,List.length_cons]
    omega
/-- Where a token stands, and what it says of its text. -/
structure At (np:Bool) (p:Nat) (t:Bs) (k:Tk):Prop where
 le:p+comsLen (ahead t).1≤k.pos
 fin:k.fin≤p+t.length
 pos:k.pos≤k.fin
 eof:k.kind=kEof→k.fin=p+t.length
 more:k.kind≠kEof→p<k.fin
 bad:np=false→k.kind≠kBad
 coms:k.coms.length≤t.length
theorem next_at {np:Bool} {p:Nat} {last:Bs} {dot:Bool} {t:Bs} {k:Tk} {d:Bool} (h:nextTok np p last dot t=.tok k d):At np p t k:=by
 have ha:=ahead_le t.length t (Nat.le_refl _)
 have hct:=ahead_count t.length t (Nat.le_refl _)
 unfold nextTok at h
 cases hs:(ahead t).2 with
 | none =>
  rw [hs] at h
  simp only at h
  have h2:=ha.2 hs
  split at h
  ·rename_i hn
   cases h
   exact ⟨Nat.le_refl _,by show p+_≤_;omega,Nat.le_refl _,fun e=>absurd (show kBad=kEof from e) (by decide),fun _=>by show p<p+_;omega,fun e=>(by rw [hn] at e;cases e),by show (comsOf p t (ahead t).1).length≤_;rw [comsOf_length];omega⟩
  ·cases h
 | some a =>
  rw [hs] at h
  simp only at h
  have h1:=ha.1 a hs
  have hg:=own_good np last dot (t.drop (comsLen (ahead t).1+a))
  cases ho:own np last dot (t.drop (comsLen (ahead t).1+a)) with
  | fault=>rw [ho] at h;cases h
  | crash=>rw [ho] at h;cases h
  | tok kk len text base d0 =>
   rw [ho] at h hg
   cases h
   obtain ⟨g1,g2,g3,g4⟩:=hg
   rw [List.length_drop] at g1
   refine ⟨Nat.le_add_right _ _, ?_,Nat.le_add_right _ _,fun e=>?_,fun e=>?_,fun _=>g4,by show (comsOf p t (ahead t).1).length≤_;rw [comsOf_length];omega⟩
   ·show p+_+a+len≤_
    omega
   ·have h3:=congrArg List.length (g2 e)
    rw [List.length_drop] at h3
    simp only [List.length_nil] at h3
    show p+_+a+len=_
    omega
   ·have hne:t.drop (comsLen (ahead t).1+a)≠[]:=by
     intro e2
     rw [e2] at ho
     apply e
     unfold own at ho
     split at ho
     ·have hf:field np last []=token np last []:=rfl
      rw [hf] at ho
      cases ho
      rfl
     ·cases ho
      rfl
    have:=g3 hne
    show p<p+_+a+len
    omega
  | bad len =>
   rw [ho] at h hg
   cases h
   obtain ⟨g1,g2,g3⟩:=hg
   rw [List.length_drop] at g3
   exact ⟨Nat.le_add_right _ _,by show p+_+a+len≤_;omega,Nat.le_add_right _ _,fun e=>absurd (show kBad=kEof from e) (by decide),fun _=>by show p<p+_+a+len;omega,fun e=>(by rw [g1] at e;cases e),by show (comsOf p t (ahead t).1).length≤_;rw [comsOf_length];omega⟩
end Go.Proofs.YtaamolahbkgofaaGreatDoor.lx
set_option linter.unusedVariables false
namespace Go.Proofs.YtaamolahbkgofaaGreatDoor.lex
open Go.RowKit mem lines plain
/-- A token of the list: what it is, its text and base as they lie, its comments' slice. -/
structure Item where
 k:lx.Tk
 t:ByteArray
 n:Int
 c:Value
def Item.cells (x:Item):List Value:=[.string ⟨x.k.kind.toArray⟩,.string ⟨x.k.sp.toArray⟩,.string ⟨x.k.raw.toArray⟩,.string x.t,.int .i64 x.n,.int .i64 (x.k.pos:Int),.int .i64 (x.k.fin:Int),x.c]
/-- The list v of the tokens it, in memory of the call's own from block base on. -/
structure Lays (W:World) (base:Nat) (v:Value) (it:List Item):Prop where
 row:W.ownsRow base 29 8 v it.length (it.flatMap Item.cells)
 coms:∀x∈it,W.ownsRow base 31 4 x.c x.k.coms.length (x.k.coms.flatMap comV)
 text:∀x∈it,x.k.kind=lx.kBad∨(x.t=⟨x.k.text.toArray⟩∧x.n=(x.k.base:Int))
theorem Lays.nil (W:World) (base:Nat):Lays W base (.slice none 0 0) []:=⟨World.ownsRow_nil _ _ _ _,fun _ h=>(by cases h),fun _ h=>(by cases h)⟩
theorem Lays.kept {W W':World} {b base:Nat} {v:Value} {it:List Item} (h:Lays W base v it) (hb:b<base) (hg:W.grownBy W' (some b)):Lays W' base v it :=
 ⟨row_kept h.row hb hg,fun x hx=>row_kept (h.coms x hx) hb hg,h.text⟩
theorem row_below {W W':World} {base n e size:Nat} {v:Value} {xs:List Value} (h:W.ownsRow base e size v n xs) (hb:Below W.heap.size W W'):W'.ownsRow base e size v n xs :=
 h.kept (grown_below hb none) (by cases v.ownBlock <;> simp)
theorem Lays.below {W W':World} {base:Nat} {v:Value} {it:List Item} (h:Lays W base v it) (hb:Below W.heap.size W W'):Lays W' base v it :=
 ⟨row_below h.row hb,fun x hx=>row_below (h.coms x hx) hb,h.text⟩
/-- Rows of other elements stay where one row grows. -/
theorem row_other {W W':World} {base n m e f size size':Nat} {v u:Value} {xs ys:List Value} (h:W.ownsRow base e size v n xs) (k:W.ownsRow base f size' u m ys) (hef:e≠f) (hg:W.grownBy W' u.ownBlock):W'.ownsRow base e size v n xs:=by
 refine h.kept hg ?_
 cases hv:v.ownBlock with
 | none=>exact .inl rfl
 | some g =>
  right
  intro hu
  rcases h.2 with ⟨rfl,_⟩|⟨g1,c1,cur1,rfl,_,hg1,_⟩
  ·simp [Value.ownBlock] at hv
  ·rcases k.2 with ⟨rfl,_⟩|⟨g2,c2,cur2,rfl,_,hg2,_⟩
   ·simp [Value.ownBlock] at hu
   ·simp [Value.ownBlock] at hv hu
    subst hv hu
    rw [hg1] at hg2
    cases hg2
    exact hef rfl
theorem Lays.add {W W':World} {base:Nat} {v v':Value} {it:List Item} {x:Item} (h:Lays W base v it) (hc:W.ownsRow base 31 4 x.c x.k.coms.length (x.k.coms.flatMap comV)) (ht:x.k.kind=lx.kBad∨(x.t=⟨x.k.text.toArray⟩∧x.n=(x.k.base:Int)))
  (hr:W'.ownsRow base 29 8 v' (it.length+1) (it.flatMap Item.cells++x.cells)) (hg:W.grownBy W' v.ownBlock):Lays W' base v' (it++[x]):=by
 refine ⟨by simpa [List.flatMap_append] using hr,fun y hy=>?_,fun y hy=>?_⟩
 ·rcases List.mem_append.1 hy with hy|hy
  ·exact row_other (h.coms y hy) h.row (by decide) hg
  ·rw [List.mem_singleton.1 hy]
   exact row_other hc h.row (by decide) hg
 ·rcases List.mem_append.1 hy with hy|hy
  ·exact h.text y hy
  ·rw [List.mem_singleton.1 hy]
   exact ht
theorem own_one {W:World} {base e n size:Nat} {v:Value} {xs:List Value} (h:W.ownsRow base e size v n xs):v.oneCell'=true:=by
 rcases h.2 with ⟨rfl,_⟩|⟨g,c,cur,rfl,_⟩ <;> rfl
theorem tokInfo:(Tryz.prog.info? 29).map (fun i=>(i.zero,i.size,i.bytes))=some (some (.agg #[.string ⟨#[]⟩,.string ⟨#[]⟩,.string ⟨#[]⟩,.string ⟨#[]⟩,.int .i64 0,.int .i64 0,.int .i64 0,.slice none 0 0]),8,112):=by kernel_rfl
end Go.Proofs.YtaamolahbkgofaaGreatDoor.lex
set_option linter.unusedVariables false
namespace Go.Proofs.YtaamolahbkgofaaGreatDoor.lex
open Go.RowKit mem lines plain
theorem own_cell_at {w:World} {base e g n cap size:Nat} {xs:List Value} (h:w.ownsRow base e size (.slice (some ⟨g,0,none⟩) n cap) n xs) (i j:Nat) (hj:j<size) (hi:i<n):w.cell? ⟨g,i*size+j,none⟩=xs[i*size+j]?:=by
 obtain ⟨h1,⟨h2,_⟩|⟨g',cap',cur,h3,h4,h5,h6,h7,h8,h9⟩⟩:=h
 ·cases h2
 ·cases h3
  have hlt:i*size+j<n*size:=by
   have:(i+1)*size≤n*size:=Nat.mul_le_mul_right size hi
   rw [Nat.succ_mul] at this
   omega
  rw [cells_of_heap h5,←h9,List.getElem?_take,if_pos (by omega),Array.getElem?_toList]
theorem flat_cells {α:Type} (f:α→List Value) (n:Nat) (hf:∀x,(f x).length=n):∀(l:List α) (i j:Nat) (h:i<l.length),j<n→(l.flatMap f)[i*n+j]?=(f l[i])[j]?
 | [],i,j,h,_=>by simp at h
 | c::r,0,j,h,hj=>by
  simp only [List.flatMap_cons,Nat.zero_mul,Nat.zero_add,List.getElem_cons_zero]
  rw [List.getElem?_append_left (by rw [hf];exact hj)]
 | c::r,i+1,j,h,hj=>by
  simp only [List.flatMap_cons,List.getElem_cons_succ]
  rw [List.getElem?_append_right (by rw [hf,Nat.succ_mul];omega),show (i+1)*n+j-(f c).length=i*n+j from by rw [hf,Nat.succ_mul];omega]
  exact flat_cells f n hf r i j (by simpa using h) hj
/-- A comment's four cells. -/
structure ComAt (W:World) (g j:Nat) (c:lx.Cm):Prop where
 sp:W.cell? ⟨g,j*4,none⟩=some (.string ⟨c.sp.toArray⟩)
 raw:W.cell? ⟨g,j*4+1,none⟩=some (.string ⟨c.raw.toArray⟩)
 pos:W.cell? ⟨g,j*4+2,none⟩=some (.int .i64 (c.pos:Int))
 fin:W.cell? ⟨g,j*4+3,none⟩=some (.int .i64 (c.fin:Int))
/-- A slice of comments. -/
def ComsAt (W:World) (v:Value) (cs:List lx.Cm):Prop :=
 (v=.slice none 0 0∧cs=[])∨∃g cap,v=.slice (some ⟨g,0,none⟩) cs.length cap∧g<W.heap.size∧∀j (h:j<cs.length),ComAt W g j cs[j]
/-- A token's eight cells. -/
structure TokAt (W:World) (g i:Nat) (k:lx.Tk) (v:Value):Prop where
 kind:W.cell? ⟨g,i*8,none⟩=some (.string ⟨k.kind.toArray⟩)
 sp:W.cell? ⟨g,i*8+1,none⟩=some (.string ⟨k.sp.toArray⟩)
 raw:W.cell? ⟨g,i*8+2,none⟩=some (.string ⟨k.raw.toArray⟩)
 text:∃t:ByteArray,W.cell? ⟨g,i*8+3,none⟩=some (.string t)∧(k.kind=lx.kBad∨t=⟨k.text.toArray⟩)
 base:∃n:Int,W.cell? ⟨g,i*8+4,none⟩=some (.int .i64 n)∧(k.kind=lx.kBad∨n=(k.base:Int))
 pos:W.cell? ⟨g,i*8+5,none⟩=some (.int .i64 (k.pos:Int))
 fin:W.cell? ⟨g,i*8+6,none⟩=some (.int .i64 (k.fin:Int))
 com:W.cell? ⟨g,i*8+7,none⟩=some v
 coms:ComsAt W v k.coms
/-- A slice of tokens. -/
def ToksAt (W:World) (v:Value) (l:List lx.Tk):Prop :=
 (v=.slice none 0 0∧l=[])∨∃g cap,v=.slice (some ⟨g,0,none⟩) l.length cap∧g<W.heap.size∧∀i (h:i<l.length),∃cv,TokAt W g i l[i] cv
theorem ComAt.below {W W':World} {B g j:Nat} {c:lx.Cm} (h:ComAt W g j c) (hg:g<B) (hb:Below B W W'):ComAt W' g j c :=
 ⟨(hb.cell (p:=⟨g,_,none⟩) hg).trans h.sp,(hb.cell (p:=⟨g,_,none⟩) hg).trans h.raw,(hb.cell (p:=⟨g,_,none⟩) hg).trans h.pos,(hb.cell (p:=⟨g,_,none⟩) hg).trans h.fin⟩
theorem ComsAt.below {W W':World} {v:Value} {cs:List lx.Cm} (h:ComsAt W v cs) (hb:Below W.heap.size W W'):ComsAt W' v cs:=by
 rcases h with h|⟨g,cap,h1,h2,h3⟩
 ·exact .inl h
 ·exact .inr ⟨g,cap,h1,Nat.lt_of_lt_of_le h2 hb.size,fun j hj=>(h3 j hj).below h2 hb⟩
theorem TokAt.below {W W':World} {g i:Nat} {k:lx.Tk} {v:Value} (h:TokAt W g i k v) (hg:g<W.heap.size) (hb:Below W.heap.size W W'):TokAt W' g i k v:=by
 obtain ⟨t,h4,h5⟩:=h.text
 obtain ⟨n,h6,h7⟩:=h.base
 exact ⟨(hb.cell (p:=⟨g,_,none⟩) hg).trans h.kind,(hb.cell (p:=⟨g,_,none⟩) hg).trans h.sp,(hb.cell (p:=⟨g,_,none⟩) hg).trans h.raw,⟨t,(hb.cell (p:=⟨g,_,none⟩) hg).trans h4,h5⟩,⟨n,(hb.cell (p:=⟨g,_,none⟩) hg).trans h6,h7⟩,(hb.cell (p:=⟨g,_,none⟩) hg).trans h.pos,(hb.cell (p:=⟨g,_,none⟩) hg).trans h.fin,(hb.cell (p:=⟨g,_,none⟩) hg).trans h.com,h.coms.below hb⟩
theorem ToksAt.below {W W':World} {v:Value} {l:List lx.Tk} (h:ToksAt W v l) (hb:Below W.heap.size W W'):ToksAt W' v l:=by
 rcases h with h|⟨g,cap,h1,h2,h3⟩
 ·exact .inl h
 ·exact .inr ⟨g,cap,h1,Nat.lt_of_lt_of_le h2 hb.size,fun i hi=>by
   obtain ⟨cv,h4⟩:=h3 i hi
   exact ⟨cv,h4.below h2 hb⟩⟩
theorem row_lt {W:World} {base e g n cap size:Nat} {xs:List Value} (h:W.ownsRow base e size (.slice (some ⟨g,0,none⟩) n cap) n xs):g<W.heap.size:=(h.lt g rfl).2
theorem coms_at {W:World} {base:Nat} {v:Value} {cs:List lx.Cm} (h:W.ownsRow base 31 4 v cs.length (cs.flatMap comV)):ComsAt W v cs:=by
 obtain ⟨h1,⟨h2,h3⟩|⟨g,cap,cur,h3,h4⟩⟩:=h
 ·exact .inl ⟨h2,List.length_eq_zero_iff.1 h3⟩
 ·subst h3
  have h:W.ownsRow base 31 4 (.slice (some ⟨g,0,none⟩) cs.length cap) cs.length (cs.flatMap comV):=⟨h1,.inr ⟨g,cap,cur,rfl,h4⟩⟩
  refine .inr ⟨g,cap,rfl,row_lt h,fun j hj=>?_⟩
  have key:∀i,i<4→W.cell? ⟨g,j*4+i,none⟩=(comV cs[j])[i]?:=fun i hi=>by
   rw [own_cell_at h j i hi hj,flat_cells comV 4 (fun _=>rfl) cs j i hj hi]
  exact ⟨key 0 (by omega),key 1 (by omega),key 2 (by omega),key 3 (by omega)⟩
theorem Lays.at {W:World} {base:Nat} {v:Value} {it:List Item} (h:Lays W base v it):ToksAt W v (it.map Item.k):=by
 have hr:=h.row
 obtain ⟨h1,⟨h2,h3⟩|⟨g,cap,cur,h3,h4⟩⟩:=h.row
 ·exact .inl ⟨h2,by rw [List.length_eq_zero_iff.1 h3];rfl⟩
 ·subst h3
  refine .inr ⟨g,cap,by rw [List.length_map],row_lt hr,fun i hi=>?_⟩
  have hi':i<it.length:=by simpa using hi
  have key:∀j,j<8→W.cell? ⟨g,i*8+j,none⟩=(it[i].cells)[j]?:=fun j hj=>by
   rw [own_cell_at hr i j hj hi',flat_cells Item.cells 8 (fun _=>rfl) it i j hi' hj]
  have ht:=h.text it[i] (List.getElem_mem hi')
  have e:(it.map Item.k)[i]=it[i].k:=by simp
  rw [e]
  refine ⟨it[i].c,key 0 (by omega),key 1 (by omega),key 2 (by omega),⟨it[i].t,key 3 (by omega), ?_⟩,⟨it[i].n,key 4 (by omega), ?_⟩,key 5 (by omega),key 6 (by omega),key 7 (by omega),coms_at (h.coms it[i] (List.getElem_mem hi'))⟩
  ·rcases ht with ht|ht
   ·exact .inl ht
   ·exact .inr ht.1
  ·rcases ht with ht|ht
   ·exact .inl ht
   ·exact .inr ht.2
/-- The slice of tokens, whether it has any or none. -/
theorem ToksAt.view {W:World} {v:Value} {l:List lx.Tk} (h:ToksAt W v l):∃b cap,v=.slice b l.length cap∧∀i (h:i<l.length),∃g cv,b=some ⟨g,0,none⟩∧g<W.heap.size∧TokAt W g i l[i] cv:=by
 rcases h with ⟨h1,rfl⟩|⟨g,cap,h1,h2,h3⟩
 ·exact ⟨none,0,h1,fun i h=>by simp at h⟩
 ·refine ⟨_,cap,h1,fun i hi=>?_⟩
  obtain ⟨cv,h4⟩:=h3 i hi
  exact ⟨g,cv,rfl,h2,h4⟩
theorem ComsAt.view {W:World} {v:Value} {cs:List lx.Cm} (h:ComsAt W v cs):∃b cap,v=.slice b cs.length cap∧∀j (h:j<cs.length),∃g,b=some ⟨g,0,none⟩∧g<W.heap.size∧ComAt W g j cs[j]:=by
 rcases h with ⟨h1,rfl⟩|⟨g,cap,h1,h2,h3⟩
 ·exact ⟨none,0,h1,fun i h=>by simp at h⟩
 ·exact ⟨_,cap,h1,fun j hj=>⟨g,rfl,h2,h3 j hj⟩⟩
end Go.Proofs.YtaamolahbkgofaaGreatDoor.lex
