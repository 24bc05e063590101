/-
  Small words on memory that the walks of this seat share: a row of bytes of the call's own, what a conversion of a text to bytes leaves. Plain Lean on lines: a text cut at its line feeds, where its lines begin, the line of a place. No program in sight. Walks of the functions of the package token that tell the line and the column of a place: zzIndex and zzSplit at a line feed, (*File).init, (*File).ResolvePos. Walks of (*token.File).init and (*token.File).ResolvePos: they lay the table of the lines of a text, once, and tell the line and the column of a place. They write the file's own block and blocks of their own. Contracts of the lexer's small functions: eof, peekOk, peek, peekIs, slice, skip, skipN. What they read are three cells: the lexer's file and place, the file's text. Plain Lean on bytes: capitals, case variants of a text. No program in sight. The lexer as plain Lean functions on what is left of a text. No program in sight. The state of a lexer in memory, as the walks of the lexer's functions tell it: the lexer's twelve cells, its file, the library's tables. Conditions: of each, in its statement.
-/
import Derived.Test.YtaamolahbkgofaaGreatDoorRows
import Derived.WalkKit
import Derived.Lib.Hide
import Derived.Deep.Draws
import Derived.WalkSpells
import Derived.Deep.AppendLies
import Derived.WalkLawsBesides
import Derived.Lib.IndexBytes
import Derived.Deep.QuietTactic
import Derived.BigQuiet
import Derived.Lib.RuneBytes
import Derived.Lib.SpaceUEq
import Derived.Shelf.Unicode.IsSpaceAny
import Derived.Shelf.Unicode.DecodeSlow
import Derived.Lib.LaidTab
import Derived.Lib.ItoaNum
namespace Go.Proofs.YtaamolahbkgofaaGreatDoor.mem
open Go.RowKit
theorem ret_bool {x y:Bool} (h:x=y):Ending.returned (.bool x)=.returned (.bool y):=by rw [h]
theorem ret_str {x y:ByteArray} (h:x=y):Ending.returned (.string x)=.returned (.string y):=by rw [h]
/-- Block b, one of the call's own (it began in w), holds the bytes l from its beginning on, and they may be written. -/
structure OwnB (w wr:World) (b:Nat) (l:List UInt8):Prop where
 below:Below w.heap.size w wr
 own:w.heap.size≤b
 cells:∀j (h:j<l.length),wr.cell? ⟨b,j,none⟩=some (.int .u8 (l[j].toNat:Int))
 free:∀j,j<l.length→wr.frozen? ⟨b,j,none⟩=false
theorem OwnB.drew {w wr:World} {b:Nat} {l:List UInt8} (h:OwnB w wr b l):OwnB w wr.drew b l:=⟨h.below.drew,h.own,h.cells,h.free⟩
theorem OwnB.drewN {w wr:World} {b:Nat} {l:List UInt8} (h:OwnB w wr b l) (n:Nat):OwnB w (wr.drewN n) b l :=
 ⟨⟨h.below.os,h.below.tape,h.below.output,h.below.size,h.below.block⟩,h.own,h.cells,h.free⟩
theorem OwnB.set {w wr:World} {b:Nat} {l:List UInt8} (h:OwnB w wr b l) (k:Nat) (hk:k<l.length) (c:UInt8) :
  OwnB w (wr.setCell ⟨b,k,none⟩ (.int .u8 (c.toNat:Int))) b (l.set k c):=by
 refine ⟨h.below.setCell (p:=⟨b,k,none⟩) h.own _,h.own,fun j hj=>?_,fun j hj=>?_⟩
 ·have hj':j<l.length:=by simpa using hj
  by_cases e:k=j
  ·subst e
   rw [World.cell?_setCell_same wr ⟨b,k,none⟩ _ (h.cells k hk)]
   simp
  ·rw [World.cell?_setCell_other wr ⟨b,k,none⟩ ⟨b,j,none⟩ _ (by simp [*]),h.cells j hj']
   simp [e]
 ·rw [World.frozen?_setCell]
  exact h.free j (by simpa using hj)
theorem bytesRow_cell (s:ByteArray) (cap:Nat) (j:Nat) (hj:j<s.data.toList.length):(bytesRow s cap)[j]?=some (.int .u8 ((s.data.toList[j]).toNat:Int)):=by
 have h1:j<s.data.size:=by simpa using hj
 have h2:j<s.size:=h1
 simp [bytesRow,Array.getElem?_append,h2]
/-- What a text turned to bytes leaves: a block of the call's own that holds them. -/
theorem conv_bytes {P:Program} (w:World) (src dst e:TypeId) (s:ByteArray) (hs:P.underlying src=some .string) (hd:P.underlying dst=some (.slice e)) (he:P.underlying e=some (.int .u8)) :
  ∃cap W1,(convert src dst (.string s)).run P w=.ok (.slice (some ⟨w.heap.size,0,none⟩) s.size cap) W1∧OwnB w W1 w.heap.size s.data.toList:=by
 refine ⟨_,_,run_bytes_of_string w src dst e s hs hd he, ?_⟩
 have hnew:∀(cs:Array Value) (r:Nat × Nat),(w.drew.alloc (.cells cs e r)).heap[w.heap.size]?=some (.cells cs e r):=fun cs r=>by
  show (w.heap.push _)[w.heap.size]?=_
  simp
 refine ⟨((Below.refl _ _).drew).alloc (Nat.le_refl _) _,Nat.le_refl _,fun j hj=>?_,fun j hj=>?_⟩
 ·simp only [World.cell?,hnew]
  exact bytesRow_cell s _ j hj
 ·have hle:s.data.toList.length≤(bytesRow s (grownCap w s.size 0 e)).size:=by simp [bytesRow]
  simp only [World.frozen?,hnew]
  simp
  omega
/-- And back: the bytes that such a block holds, as a text. -/
theorem conv_back {P:Program} {w wr:World} {b:Nat} {l:List UInt8} (h:OwnB w wr b l) (src dst e:TypeId) (n cap:Nat) (hn:l.length=n) (hs:P.underlying src=some (.slice e)) (he:P.underlying e=some (.int .u8))
  (hd:P.underlying dst=some .string):(convert src dst (.slice (some ⟨b,0,none⟩) n cap)).run P wr=.ok (.string ⟨l.toArray⟩) wr:=by
 subst hn
 refine run_convert_bytes_back wr src dst e ⟨b,0,none⟩ cap l hs he hd fun j hj=>?_
 rw [←h.cells j hj]
 congr 1
 simp only [Addr.add]
 split <;> simp_all
theorem grown_trans {a b c:World} {row:Option Nat} (h:a.grownBy b row) (k:b.grownBy c row):a.grownBy c row :=
 ⟨k.os.trans h.os,k.tape.trans h.tape,k.output.trans h.output,Nat.le_trans h.size k.size,fun i hi hne=>(k.block i (Nat.lt_of_lt_of_le hi h.size) hne).trans (h.block i hi hne)⟩
theorem grown_alloc {a b:World} {row:Option Nat} (h:a.grownBy b row) (o:Obj):a.grownBy (b.alloc o) row:=grown_trans h (World.grownBy_alloc b o row)
theorem grown_drew {a b:World} {row:Option Nat} (h:a.grownBy b row):a.grownBy b.drew row:=⟨h.os,h.tape,h.output,h.size,h.block⟩
theorem grown_drewN {a b:World} {row:Option Nat} (h:a.grownBy b row) (n:Nat):a.grownBy (b.drewN n) row:=⟨h.os,h.tape,h.output,h.size,h.block⟩
theorem grown_set {a b:World} {g:Nat} (h:a.grownBy b (some g)) (k:Nat) (u:Value):a.grownBy (b.setCell ⟨g,k,none⟩ u) (some g) :=
 ⟨h.os,h.tape,h.output,by simpa [World.setCell] using h.size,fun i hi hne=>(Below.heap_setCell b ⟨g,k,none⟩ u i (fun e=>hne (by rw [e]))).trans (h.block i hi hne)⟩
theorem grown_below {a b:World} (h:Below a.heap.size a b) (row:Option Nat):a.grownBy b row:=⟨h.os,h.tape,h.output,h.size,fun i hi _=>h.block i hi⟩
theorem grown_refl (a:World) (row:Option Nat):a.grownBy a row:=⟨rfl,rfl,rfl,Nat.le_refl _,fun _ _ _=>rfl⟩
/-- append of one element (of 'size' cells) to a slice of the call's own. -/
theorem wpList_append_el {P:Program} (w:World) {ops:Array Oper} {rest:List Oper} {o:Oper} {a:Act} {Q:Exit→Act→World→Prop} (hgd:o.guard=none) (s x:Operand) (t:TypeId)
  (ho:o.op=.call { callee:=.builtin .append,args:=#[s,x],argTypes:=#[t,t] })
  (base:Nat) (e:TypeId) (i:TypeInfo) (z:Value) (size bytes:Nat) (ht:P.underlying t=some (.slice e)) (hi:P.info? e=some i) (hz:i.zero=some z)
  (hsize:i.size=size) (hby:i.bytes=bytes) (hzs:z.cells.size=size) (hsz:0<size)
  (v:Value) (n:Nat) (xs:List Value) (hs:a.eval s=v) (hown:w.ownsRow base e size v n xs)
  (us:List Value) (hx:a.eval x=.slice (some ⟨w.heap.size,0,none⟩) 1 1) (hl:us.length=size) (h1:∀u∈us,u.oneCell'=true)
  (hbytes:(n+1)*bytes≤140737488355328) (h63:n+1≤maxLen) (hbase:base≤w.heap.size)
  (h:∀v' w',w'.ownsRow base e size v' (n+1) (xs++us)→w.grownBy w' v.ownBlock→(v'=.slice none 0 0→False)→wpList P ops Q rest (a.put o.dst v') w') :
  wpList P ops Q (o::rest) a (w.alloc (.cells us.toArray e)):=by
 refine wpList_append_own _ hgd s x t ho base e i z size bytes ht hi hz hsize hby hzs hsz v n xs hs (hown.alloc _) ⟨w.heap.size,0,none⟩ 1 1 us hx (by omega) ?_ h1 h63 hbytes (by simp;omega) ?_
 ·intro j u hj
  have hnew:(w.alloc (.cells us.toArray e)).heap[w.heap.size]?=some (.cells us.toArray e):=by
   show (w.heap.push _)[w.heap.size]?=_
   simp
  have ha:(⟨w.heap.size,0,none⟩:Addr).add j=⟨w.heap.size,j,none⟩:=by
   simp only [Addr.add]
   split <;> simp_all
  rw [ha]
  simp only [World.cell?,hnew]
  simpa using hj
 ·intro v' w' h2 h3 h4
  exact h v' w' h2 (grown_trans (World.grownBy_alloc w _ _) h3) fun e=>by simp at h4;exact h4 e
end Go.Proofs.YtaamolahbkgofaaGreatDoor.mem
namespace Go.Proofs.YtaamolahbkgofaaGreatDoor.lines
/-- A text, cut at its line feeds. -/
def splitL:List UInt8→List (List UInt8)
 | []=>[[]]
 | c::r=>if c=10 then []::splitL r else match splitL r with
  | h::t=>(c::h)::t
  | []=>[[c]]
theorem splitL_ne (l:List UInt8):splitL l≠[]:=by
 cases l with
 | nil=>simp [splitL]
 | cons c r =>
  unfold splitL
  split
  ·simp
  ·split <;> simp
/-- Where the lines of such pieces begin, and where one more would. -/
def startsFrom:Nat→List (List UInt8)→List Nat
 | p,[]=>[p]
 | p,x::r=>p::startsFrom (p+x.length+1) r
theorem startsFrom_length (ps:List (List UInt8)):∀p,(startsFrom p ps).length=ps.length+1:=by
 induction ps with
 | nil=>intro p;rfl
 | cons x r ih=>intro p;simp [startsFrom,ih]
theorem startsFrom_zero (ps:List (List UInt8)) (p:Nat) (h:0<(startsFrom p ps).length):(startsFrom p ps)[0]=p:=by cases ps <;> rfl
theorem startsFrom_next (ps:List (List UInt8)):∀(p k:Nat) (hk:k<ps.length) (h1:k<(startsFrom p ps).length) (h2:k+1<(startsFrom p ps).length),
  (startsFrom p ps)[k+1]=(startsFrom p ps)[k]+ps[k].length+1:=by
 induction ps with
 | nil=>intro p k hk;simp at hk
 | cons x r ih =>
  intro p k hk h1 h2
  cases k with
  | zero=>simp [startsFrom,startsFrom_zero]
  | succ k=>simpa [startsFrom] using ih (p+x.length+1) k (by simpa using hk) (by simpa [startsFrom] using h1) (by simpa [startsFrom] using h2)
/-- Where the lines of a text begin, the first one left out, and where one more would. -/
def tails:Nat→List UInt8→List Nat
 | p,[]=>[p+1]
 | p,c::r=>if c=10 then (p+1)::tails (p+1) r else tails (p+1) r
theorem startsFrom_split (l:List UInt8):∀q,startsFrom q (splitL l)=q::tails q l:=by
 have key:∀(l:List UInt8) q,∃h t,splitL l=h::t∧startsFrom (q+h.length+1) t=tails q l:=by
  intro l
  induction l with
  | nil=>intro q;exact ⟨[],[],rfl,rfl⟩
  | cons c r ih =>
   intro q
   by_cases hc:c=10
   ·obtain ⟨h',t',e,ht⟩:=ih (q+1)
    refine ⟨[],splitL r,by simp [splitL,hc], ?_⟩
    rw [e]
    simp only [List.length_nil,Nat.add_zero,startsFrom,ht,tails,hc,if_true]
   ·obtain ⟨h',t',e,ht⟩:=ih (q+1)
    refine ⟨c::h',t',by simp [splitL,hc,e], ?_⟩
    simp only [tails,hc,if_false]
    rw [←ht,List.length_cons]
    congr 1
    omega
 intro q
 obtain ⟨h,t,e,ht⟩:=key l q
 rw [e]
 simp only [startsFrom,ht]
/-- How many line feeds stand among the first n bytes. -/
def feeds (l:List UInt8) (n:Nat):Nat:=(l.take n).count 10
theorem feeds_zero (l:List UInt8):feeds l 0=0:=by simp [feeds]
theorem feeds_le (l:List UInt8) (n:Nat):feeds l n≤l.length:=by
 have h1:=List.count_le_length (a:=(10:UInt8)) (l:=l.take n)
 have h2:(l.take n).length≤l.length:=by simp;omega
 unfold feeds
 omega
theorem feeds_succ (l:List UInt8) (k:Nat) (h:k<l.length):feeds l (k+1)=feeds l k+if l[k]=10 then 1 else 0:=by
 unfold feeds
 rw [List.take_succ_eq_append_getElem h,List.count_append,List.count_cons]
 simp
theorem feeds_mono (l:List UInt8) {a b:Nat} (h:a≤b):feeds l a≤feeds l b:=by
 unfold feeds
 exact (List.take_prefix_take_left h).sublist.count_le _
theorem tails_length (l:List UInt8):∀p,(tails p l).length=l.count 10+1:=by
 induction l with
 | nil=>intro p;rfl
 | cons c r ih =>
  intro p
  by_cases hc:c=10
  iterate 2
   ·simp [tails,hc,ih]
theorem tails_le_iff (l:List UInt8):∀(p n i:Nat) (hi:i<(tails p l).length),n≤l.length→((tails p l)[i]≤p+n↔i<feeds l n):=by
 induction l with
 | nil =>
  intro p n i hi hn
  have h0:i=0:=by simp [tails] at hi;exact hi
  subst h0
  simp at hn
  subst hn
  simp [tails,feeds]
 | cons c r ih =>
  intro p n i hi hn
  cases n with
  | zero =>
   simp only [feeds,List.take_zero,List.count_nil,Nat.not_lt_zero,iff_false,Nat.not_le,Nat.add_zero]
   have big:∀(l:List UInt8) (p i:Nat) (hi:i<(tails p l).length),p<(tails p l)[i]:=by
    intro l
    induction l with
    | nil =>
     intro p i hi
     have h0:i=0:=by simp [tails] at hi;exact hi
     subst h0
     simp [tails]
    | cons c r ih =>
     intro p i hi
     by_cases hc:c=10
     ·cases i with
      | zero=>simp [tails,hc]
      | succ i =>
       have:=ih (p+1) i (by simpa [tails,hc] using hi)
       simp only [tails,hc,if_true,List.getElem_cons_succ]
       omega
     ·have:=ih (p+1) i (by simpa [tails,hc] using hi)
      simp only [tails,hc,if_false]
      omega
   exact big _ _ _ hi
  | succ n =>
   have hn':n≤r.length:=by simpa using hn
   by_cases hc:c=10
   ·have hf:feeds (c::r) (n+1)=feeds r n+1:=by simp [feeds,hc]
    rw [hf]
    cases i with
    | zero=>simp [tails,hc]
    | succ i =>
     have:=ih (p+1) n i (by simpa [tails,hc] using hi) hn'
     simp only [tails,hc,if_true,List.getElem_cons_succ]
     rw [show p+(n+1)=p+1+n from by omega,this]
     omega
   ·have hf:feeds (c::r) (n+1)=feeds r n:=by simp [feeds,hc]
    rw [hf]
    have:=ih (p+1) n i (by simpa [tails,hc] using hi) hn'
    simp only [tails,hc,if_false]
    rw [show p+(n+1)=p+1+n from by omega,this]
/-- Where the lines of a text begin, and where one more would. -/
def starts (l:List UInt8):List Nat:=startsFrom 0 (splitL l)
theorem starts_eq (l:List UInt8):starts l=0::tails 0 l:=startsFrom_split l 0
theorem starts_length (l:List UInt8):(starts l).length=l.count 10+2:=by rw [starts_eq];simp [tails_length]
theorem starts_pos (l:List UInt8):2≤(starts l).length:=by rw [starts_length];omega
theorem feeds_lt (l:List UInt8) (n:Nat):feeds l n+1<(starts l).length:=by
 rw [starts_length]
 have:=(List.take_sublist n l).count_le (10:UInt8)
 unfold feeds
 omega
/-- The line of a place is how many line feeds stand ahead of it. -/
theorem starts_le_iff (l:List UInt8) (n i:Nat) (hi:i<(starts l).length) (hn:n≤l.length):(starts l)[i]≤n↔i≤feeds l n:=by
 simp only [starts_eq]
 cases i with
 | zero=>simp
 | succ i =>
  have:=tails_le_iff l 0 n i (by simpa [starts_eq] using hi) hn
  simp only [List.getElem_cons_succ]
  rw [Nat.zero_add] at this
  rw [this]
  omega
/-- Where the line of a place begins. -/
def startOf (l:List UInt8) (n:Nat):Nat:=(starts l).getD (feeds l n) 0
theorem startOf_eq (l:List UInt8) (n:Nat) (h:feeds l n<(starts l).length):(starts l)[feeds l n]=startOf l n:=by
 simp [startOf,List.getD_eq_getElem?_getD,List.getElem?_eq_getElem h]
theorem startOf_le (l:List UInt8) (n:Nat) (hn:n≤l.length):startOf l n≤n:=by
 have h:=feeds_lt l n
 rw [←startOf_eq l n (by omega)]
 exact (starts_le_iff l n _ (by omega) hn).2 (Nat.le_refl _)
end Go.Proofs.YtaamolahbkgofaaGreatDoor.lines
namespace Go.Proofs.YtaamolahbkgofaaGreatDoor.lines
open Go.RowKit mem
/-- The place of the first line feed, or -1. -/
def ix (l:List UInt8):Int:=if 10∈l then ((l.idxOf 10:Nat):Int) else -1
theorem ret_int {k:IntKind} {a b:Int} (h:a=b):Ending.returned (.int k a)=.returned (.int k b):=by rw [h]
theorem size_list (s:ByteArray):s.data.toList.length=s.size:=by simp
theorem one_byte (s:ByteArray) (k:Nat) (h:k<s.size):(s.extract k (k+1)).toList=[s[k]]:=by
 have hl:k<s.data.toList.length:=by rw [size_list];exact h
 rw [Lib.toList_data,Lib.extract_data,Nat.add_sub_cancel_left,List.drop_eq_getElem_cons hl]
 rfl
theorem not_mem (s:ByteArray) (h:∀j (hj:j<s.size),s[j]≠10):ix s.data.toList = -1:=by
 unfold ix
 rw [if_neg]
 intro hm
 obtain ⟨j,hj,e⟩:=List.getElem_of_mem hm
 exact h j (by rw [←size_list];exact hj) e
theorem first_at (l:List UInt8):∀k (hk:k<l.length),l[k]=10→(∀j (hj:j<l.length),j<k→l[j]≠10)→l.idxOf 10=k:=by
 induction l with
 | nil=>intro k hk;simp at hk
 | cons c r ih =>
  intro k hk h0 hb
  cases k with
  | zero =>
   have:c=10:=h0
   subst this
   simp
  | succ k =>
   have hc:c≠10:=hb 0 (by simp) (by omega)
   have:=ih k (by simpa using hk) (by simpa using h0) (fun j hj hjk=>hb (j+1) (by simpa using hj) (by omega))
   have hc':(c==10)=false:=by simpa using hc
   rw [List.idxOf_cons,this,hc']
   rfl
theorem is_first (s:ByteArray) (k:Nat) (hk:k<s.size) (h:s[k]=10) (hb:∀j (hj:j<s.size),j<k→s[j]≠10):ix s.data.toList=(k:Int):=by
 have hl:k<s.data.toList.length:=by rw [size_list];exact hk
 have e:s.data.toList[k]=10:=h
 unfold ix
 rw [if_pos (e▸List.getElem_mem hl),first_at _ k hl e fun j hj hjk=>hb j (by rw [←size_list];exact hj) hjk]
set_option maxHeartbeats 1000000 in
set_option maxRecDepth 100000 in
theorem index_any (s:ByteArray) (w:World) (hs:s.size≤1000000) :
  Calls Tryz.prog 116 #[.string s,.string ⟨#[10]⟩] w fun e w'=>e=.returned (.int .i64 (ix s.data.toList))∧w=w':=by
 go_enter Tryz.func116,Tryz.ntmps116
 go_wp2
 go_loop [5] (fun i=>∃k:Nat,k≤s.size∧i=.int .i64 k∧Hid (∀j (hj:j<s.size),j<k→s[j]≠10)) (fun i=>s.size-(intOf i).toNat)
 case atStart=>exact ⟨0,Nat.zero_le _,rfl,fun j _ h=>absurd h (by omega)⟩
 case round =>
  obtain ⟨k,hk,rfl,H⟩:=hrel
  by_cases hlt:k<s.size
  ·have O:=Lib.hid (one_byte s k hlt)
   go_wp2
   ·have h:((s.extract k (k+1)).toList==[10])=true:=by assumption
    rw [O.out] at h
    go_ret
    exact ⟨ret_int (is_first s k hlt (by simpa using h) H.out).symm,rfl⟩
   ·have h:((s.extract k (k+1)).toList==[10])=false:=by assumption
    rw [O.out] at h
    go_round
    case rel=>exact ⟨k+1,by omega,by go_num,fun j hj hjk=>if e:j=k then by subst e;simpa using h else H.out j hj (by omega)⟩
    case measure=>simp [intOf];omega
  ·go_wp2
   go_ret
   exact ⟨ret_int (not_mem s fun j hj=>H.out j hj (by omega)).symm,rfl⟩
/-- A list of bytes as a text's value. -/
def strV (l:List UInt8):Value:=.string ⟨l.toArray⟩
theorem extract_str (s:ByteArray) (a b:Nat):Value.string (s.extract a b)=strV ((s.data.toList.drop a).take (b-a)):=by
 unfold strV
 congr 1
 apply ByteArray.ext
 rw [←Lib.extract_data]
theorem extract_end (s:ByteArray) (a:Nat):(s.extract a s.size).data.toList=s.data.toList.drop a:=Lib.extract_to_end s a
theorem str_self (s:ByteArray):Value.string s=strV s.data.toList:=by cases s;rfl
theorem splitL_miss (l:List UInt8) (h:10∉l):splitL l=[l]:=by
 induction l with
 | nil=>rfl
 | cons c r ih =>
  have hc:c≠10:=fun e=>h (by simp [e])
  have hr:10∉r:=fun e=>h (by simp [e])
  simp [splitL,hc,ih hr]
theorem splitL_hit (l:List UInt8) (h:10∈l):splitL l=l.take (l.idxOf 10)::splitL (l.drop (l.idxOf 10+1)):=by
 induction l with
 | nil=>simp at h
 | cons c r ih =>
  by_cases hc:c=10
  ·subst hc
   simp [splitL]
  ·have hr:10∈r:=by
    rcases List.mem_cons.1 h with e|e
    ·exact absurd e.symm hc
    ·exact e
   have hc':(c==10)=false:=by simpa using hc
   rw [List.idxOf_cons,hc']
   simp [splitL,hc,ih hr]
theorem idx_lt (l:List UInt8) (h:10∈l):l.idxOf 10<l.length:=List.idxOf_lt_length_iff.2 h
theorem strInfo:(Tryz.prog.info? 9).map (fun i=>(i.zero,i.size,i.bytes))=some (some (.string ByteArray.empty),1,16):=by kernel_rfl
/-- What zzSplit answers: a slice of the call's own that holds the pieces. -/
def Split (s:ByteArray) (w:World) (e:Ending) (w':World):Prop :=
 ∃v,e=.returned v∧w'.ownsRow w.heap.size 9 1 v (splitL s.data.toList).length ((splitL s.data.toList).map strV)∧Below w.heap.size w w'
/-- How long the text in a slot is. -/
def strLen:Value→Nat
 | .string t=>t.size
 | _=>0
theorem one_str (x:ByteArray):∀u∈[Value.string x],u.oneCell'=true:=by
 intro u hu
 simp at hu
 subst hu
 rfl
set_option maxHeartbeats 2000000 in
set_option maxRecDepth 100000 in
theorem split_any (s:ByteArray) (w:World) (hs:s.size≤1000000) :
  Calls Tryz.prog 96 #[.string s,.string ⟨#[10]⟩] w (Split s w):=by
 obtain ⟨i0,hi,hz0,hz1,hz2⟩:=info_parts strInfo
 have HI:=Lib.hid hi
 have HZ0:=Lib.hid hz0
 have HZ1:=Lib.hid hz1
 have HZ2:=Lib.hid hz2
 clear hi hz0 hz1 hz2
 have hone:(((1:Nat):Int)==0)=false:=rfl
 go_enter Tryz.func96,Tryz.ntmps96
 go_wp2_with fail
 go_loopw [0,5] (fun u v wr=>∃(t:ByteArray) (done:List (List UInt8)),u=.string t∧t.size≤1000000∧done.length+t.size≤s.size∧Hid (done++splitL t.data.toList=splitL s.data.toList) ∧
   Hid (wr.ownsRow w.heap.size 9 1 v done.length (done.map strV))∧Hid (Below w.heap.size w wr)) (fun u _ _=>strLen u)
 case atStart=>exact ⟨s,[],rfl,hs,by simp,rfl,World.ownsRow_nil _ _ _ _,Below.refl _ _⟩
 case round =>
  obtain ⟨t,done,rfl,ht,hl,HD,HO,HB⟩:=hrel
  by_cases hm:(10:UInt8)∈t.data.toList
  ·have X:=Lib.hid (show ix t.data.toList=((t.data.toList.idxOf 10:Nat):Int) by unfold ix;rw [if_pos hm])
   have L:=Lib.hid (idx_lt _ hm)
   have P:=Lib.hid (splitL_hit _ hm)
   have Z:=Lib.hid (size_list t)
   clear hm
   generalize hk:t.data.toList.idxOf 10=k at X L P
   clear hk
   have hkt:k<t.size:=by have:=L.out;have:=Z.out;omega
   have HBs:=Lib.hid HB.out.size
   go_wp2_with (first
    | (go_at_call 116;refine (index_any _ _ ht).mono ?_;rintro e w' ⟨rfl,rfl⟩;rw [X.out])
    | (at_builtin;refine wpList_append_el _ rfl _ _ 152 rfl w.heap.size 9 i0 _ 1 16 Tryz.underlying152 HI.out HZ0.out HZ1.out HZ2.out rfl (by decide) u5 _ _ rfl HO.out [Value.string (t.extract 0 k)] rfl rfl (one_str _) (by omega) (by unfold maxLen;omega) HBs.out ?_;intro v' w1 o1 g1 n1;have O1:=Lib.hid o1;have G1:=Lib.hid g1;clear o1 g1 n1))
   have hsz:(t.extract (k+1) t.size).size=t.size-(k+1):=by simp
   have hE:=extract_end t (k+1)
   have hlen:(done++[t.data.toList.take k]).length=done.length+1:=by simp
   refine ⟨⟨t.extract (k+1) t.size,done++[t.data.toList.take k],rfl,by omega,by omega, ?_, ?_, ?_⟩,by simp only [strLen];omega⟩
   ·show _=_
    rw [←HD.out,P.out,hE]
    simp
   ·have h:=O1.out
    rw [extract_str t 0 k] at h
    show World.ownsRow _ _ _ _ _ _ _
    rw [hlen,List.map_append]
    simpa using h
   ·exact HB.out.grown G1.out HBs.out fun j hj=>(HO.out.lt j hj).1
  ·have X:=Lib.hid (show ix t.data.toList = -1 by unfold ix;rw [if_neg hm])
   have P:=Lib.hid (splitL_miss _ hm)
   clear hm
   have HBs:=Lib.hid HB.out.size
   go_wp2_with (first
    | (go_at_call 116;refine (index_any _ _ ht).mono ?_;rintro e w' ⟨rfl,rfl⟩;rw [X.out])
    | (at_builtin;refine wpList_append_el _ rfl _ _ 152 rfl w.heap.size 9 i0 _ 1 16 Tryz.underlying152 HI.out HZ0.out HZ1.out HZ2.out rfl (by decide) u5 _ _ rfl HO.out [Value.string t] rfl rfl (one_str _) (by omega) (by unfold maxLen;omega) HBs.out ?_;intro v' w1 o1 g1 n1;have O1:=Lib.hid o1;have G1:=Lib.hid g1;clear o1 g1 n1))
   go_ret
   have hS:splitL s.data.toList=done++[t.data.toList]:=by rw [←HD.out,P.out]
   have hlen:(done++[t.data.toList]).length=done.length+1:=by simp
   refine ⟨_,rfl, ?_,HB.out.grown G1.out HBs.out fun j hj=>(HO.out.lt j hj).1⟩
   have h:=O1.out
   rw [str_self t] at h
   rw [hS,hlen,List.map_append]
   exact h
end Go.Proofs.YtaamolahbkgofaaGreatDoor.lines
namespace Go.Proofs.YtaamolahbkgofaaGreatDoor.lines
open Go.RowKit mem
def intV (n:Nat):Value:=.int .i64 (n:Int)
/-- Block f is a token.File over the text s whose table of lines has not been laid. -/
def FreshFile (w:World) (f:Nat) (s:ByteArray):Prop:=∃p:ByteArray,w.heap[f]?=some (.cells #[.string p,.string s,.slice none 0 0] 68 (0,0))
/-- Block f is a token.File over the text s whose table of lines lies, in block g. -/
def LinedAt (w:World) (f:Nat) (s:ByteArray) (g cap:Nat):Prop :=
 (∃p:ByteArray,w.heap[f]?=some (.cells #[.string p,.string s,.slice (some ⟨g,0,none⟩) (starts s.data.toList).length cap] 68 (0,0))) ∧
 ∀j,w.cell? ⟨g,j,none⟩=((starts s.data.toList).map intV)[j]?∨(starts s.data.toList).length≤j
def Lined (w:World) (f:Nat) (s:ByteArray):Prop:=∃g cap,LinedAt w f s g cap
theorem LinedAt.cell {w:World} {f g cap:Nat} {s:ByteArray} (h:LinedAt w f s g cap) (j:Nat) (hj:j<(starts s.data.toList).length) :
  w.cell? ⟨g,j,none⟩=some (.int .i64 (((starts s.data.toList)[j]:Nat):Int)):=by
 rcases h.2 j with e|e
 ·rw [e]
  simp [intV,hj]
 ·omega
theorem cells_of_heap {w:World} {b:Nat} {cs:Array Value} {t:TypeId} (h:w.heap[b]?=some (.cells cs t (0,0))) (i:Nat):w.cell? ⟨b,i,none⟩=cs[i]?:=cell_of_row w b i cs t (0,0) h
theorem free_of_heap {w:World} {b:Nat} {cs:Array Value} {t:TypeId} (h:w.heap[b]?=some (.cells cs t (0,0))) (i:Nat):w.frozen? ⟨b,i,none⟩=false:=by simp [World.frozen?,h]
theorem lt_of_heap {w:World} {b:Nat} {o:Obj} (h:w.heap[b]?=some o):b<w.heap.size:=by
 rcases Nat.lt_or_ge b w.heap.size with h1|h1
 ·exact h1
 ·rw [Array.getElem?_eq_none h1] at h
  cases h
theorem set_of_heap {w:World} {b:Nat} {cs:Array Value} {t:TypeId} (h:w.heap[b]?=some (.cells cs t (0,0))) (i:Nat) (u:Value) :
  (w.setCell ⟨b,i,none⟩ u).heap[b]?=some (.cells (cs.setIfInBounds i u) t (0,0)):=by
 simp [World.setCell,Array.getElem?_modify,h]
theorem posInfo:(Tryz.prog.info? 61).map (fun i=>(i.zero,i.size,i.bytes))=some (some (.int .i64 0),1,8):=by kernel_rfl
theorem cellsFile:Tryz.prog.cellsOf 68=3:=by kernel_rfl
/-- A table that has been laid is not laid again. -/
theorem init_old (s:ByteArray) (f:Nat) (w:World) (h:Lined w f s) :
  Calls Tryz.prog 62 #[.pointer (some ⟨f,0,none⟩)] w fun e w'=>e=.returned (.tuple #[])∧w=w':=by
 obtain ⟨g,cap,⟨p,hf⟩,hg⟩:=h
 have c2:w.cell? ⟨f,2,none⟩=some (.slice (some ⟨g,0,none⟩) (starts s.data.toList).length cap):=cells_of_heap hf 2
 have hne:=fun (W:World) a n c=>run_neq_slice_nil_any (P:=Tryz.prog) W 66 61 a n c 0 0 Tryz.underlying66
 clear hf hg
 go_enter Tryz.func62,Tryz.ntmps62
 go_wp2
 refine bodyPost_ret (results_none rfl _ _ _) rfl ?_
 exact ⟨rfl,rfl⟩
/-- What init answers at a table that has not been laid. -/
def InitNew (s:ByteArray) (f:Nat) (w:World) (e:Ending) (w':World):Prop:=e=.returned (.tuple #[])∧Lined w' f s∧w.grownBy w' (some f)
theorem starts_take (l:List UInt8) (k:Nat) (hk:k<(splitL l).length) (h1:k+1<(starts l).length) :
  (starts l).take (k+2)=(starts l).take (k+1)++[(starts l)[k]+(splitL l)[k].length+1]:=by
 rw [List.take_succ_eq_append_getElem h1]
 congr 2
 exact startsFrom_next _ 0 k hk (by unfold starts at h1;omega) h1
theorem starts_last (l:List UInt8) (k:Nat) (h:k<(starts l).length):(starts l)[k]≤l.length+1:=by
 have key:∀(l:List UInt8) (p i:Nat) (hi:i<(tails p l).length),(tails p l)[i]≤p+l.length+1:=by
  intro l
  induction l with
  | nil =>
   intro p i hi
   have h0:i=0:=by simp [tails] at hi;exact hi
   subst h0
   simp [tails]
  | cons c r ih =>
   intro p i hi
   by_cases hc:c=10
   ·cases i with
    | zero=>simp [tails,hc]
    | succ i =>
     have:=ih (p+1) i (by simpa [tails,hc] using hi)
     simp only [tails,hc,if_true,List.getElem_cons_succ,List.length_cons]
     omega
   ·have:=ih (p+1) i (by simpa [tails,hc] using hi)
    simp only [tails,hc,if_false,List.length_cons]
    omega
 simp only [starts_eq]
 cases k with
 | zero=>simp
 | succ k =>
  have:=key l 0 k (by simpa [starts_eq] using h)
  simp only [List.getElem_cons_succ]
  omega
/-- What init knows behind the call of zzSplit. -/
theorem init_mid {w w1:World} {pv:Value} {s:ByteArray}
  (hown:w1.ownsRow (w.alloc (Obj.cells #[Value.int IntKind.i64 0] 61)).heap.size 9 1 pv (splitL s.data.toList).length (List.map strV (splitL s.data.toList)))
  (hbel:Below (w.alloc (Obj.cells #[Value.int IntKind.i64 0] 61)).heap.size (w.alloc (Obj.cells #[Value.int IntKind.i64 0] 61)) w1) :
  ∃g cap cur,pv=.slice (some ⟨g,0,none⟩) (splitL s.data.toList).length cap∧w1.heap[g]?=some (.cells cur 9 (0,0)) ∧
   (∀j (hj:j<(splitL s.data.toList).length),cur[j]?=some (.string ⟨(splitL s.data.toList)[j].toArray⟩)) ∧
   w1.ownsRow w.heap.size 61 1 (.slice (some ⟨w.heap.size,0,none⟩) 1 1) (0+1) (((starts s.data.toList).take (0+1)).map intV)∧Below w.heap.size w w1:=by
 have hsz:(w.alloc (Obj.cells #[Value.int IntKind.i64 0] 61)).heap.size=w.heap.size+1:=by simp
 rw [hsz] at hown hbel
 have hpos:0<(splitL s.data.toList).length:=List.length_pos_iff.2 (splitL_ne _)
 obtain ⟨hl,hd⟩:=hown
 rcases hd with ⟨_,h0⟩|⟨g,cap,cur,hv,hg,hh,_,_,_,ht⟩
 ·omega
 refine ⟨g,cap,cur,hv,hh,fun j hj=>?_, ?_, ?_⟩
 ·have e:(cur.toList.take ((splitL s.data.toList).length*1))[j]?=((splitL s.data.toList).map strV)[j]?:=by rw [ht]
  rw [List.getElem?_take,if_pos (by omega)] at e
  rw [Array.getElem?_toList] at e
  rw [e]
  simp [strV,hj]
 ·have h0:w1.heap[w.heap.size]?=some (.cells #[.int .i64 0] 61 (0,0)):=by
   rw [hbel.block w.heap.size (by omega)]
   show (w.heap.push _)[w.heap.size]?=_
   simp
  have e:(starts s.data.toList).take (0+1)=[0]:=by rw [starts_eq];simp
  rw [e]
  exact ⟨by simp,.inr ⟨w.heap.size,1,_,rfl,Nat.le_refl _,h0,Nat.le_refl _,by unfold maxLen;omega,by simp,by simp [intV]⟩⟩
 ·exact ((Below.refl _ _).alloc (Nat.le_refl _) _).trans (hbel.mono (by omega))
theorem one_int (n:Int):∀u∈[Value.int .i64 n],u.oneCell'=true:=by
 intro u hu
 simp at hu
 subst hu
 rfl
theorem piece_le (l:List UInt8) (k:Nat) (h:k<(splitL l).length):(splitL l)[k].length≤l.length:=by
 have h1:k+1<(starts l).length:=by unfold starts;rw [startsFrom_length];omega
 have:=startsFrom_next (splitL l) 0 k h (by unfold starts at h1;omega) h1
 have h2:=starts_last l (k+1) h1
 unfold starts at h2
 omega
theorem own_ne {w:World} {base:Nat} {e t:TypeId} {size n:Nat} {gl cap g:Nat} {xs:List Value} {cur:Array Value} (h:w.ownsRow base e size (.slice (some ⟨gl,0,none⟩) n cap) n xs)
  (hg:w.heap[g]?=some (.cells cur t (0,0))) (hne:e≠t):gl≠g:=by
 rintro rfl
 rcases h.2 with ⟨h0,_⟩|⟨g',c',cur',hv,_,hh,_⟩
 ·cases h0
 ·injection hv with hv
  injection hv with hv
  injection hv with hv
  subst hv
  rw [hg] at hh
  injection hh with hh
  injection hh with _ ht
  exact hne ht.symm
set_option maxHeartbeats 4000000 in
set_option maxRecDepth 100000 in
theorem init_new (s:ByteArray) (f:Nat) (w:World) (hs:s.size≤1000000) (h:FreshFile w f s) :
  Calls Tryz.prog 62 #[.pointer (some ⟨f,0,none⟩)] w (InitNew s f w):=by
 obtain ⟨p,hf⟩:=h
 have c1:w.cell? ⟨f,1,none⟩=some (.string s):=cells_of_heap hf 1
 have c2:w.cell? ⟨f,2,none⟩=some (.slice none 0 0):=cells_of_heap hf 2
 have hne:=fun (W:World) a n c=>run_neq_slice_nil_any (P:=Tryz.prog) W 66 61 a n c 0 0 Tryz.underlying66
 have hfl:f<w.heap.size:=lt_of_heap hf
 have HF:=Lib.hid hf
 clear hf
 obtain ⟨i0,hi,hz0,hz1,hz2⟩:=info_parts posInfo
 have HI:=Lib.hid (And.intro hi (And.intro hz0 (And.intro hz1 hz2)))
 clear hi hz0 hz1 hz2
 have c1':∀o,(w.alloc o).cell? ⟨f,1,none⟩=some (.string s):=fun o=>(World.cell?_alloc_lt w o _ hfl).trans c1
 go_enter Tryz.func62,Tryz.ntmps62
 go_wp2_with fail
 refine (split_any _ _ hs).mono ?_
 rintro e w1 ⟨pv,rfl,hown,hbel⟩
 clear c1' c1 c2 hne
 obtain ⟨g,cap,cur,rfl,hg,hcur,hl0,hb0⟩:=init_mid hown hbel
 have N:=Lib.hid (show (starts s.data.toList).length=(splitL s.data.toList).length+1 from startsFrom_length _ _)
 have Hcur:=Lib.hid hcur
 have HT:=Lib.hid (fun k=>starts_take s.data.toList k)
 have HL:=Lib.hid (fun k=>starts_last s.data.toList k)
 have HP:=Lib.hid (fun k=>piece_le s.data.toList k)
 have SZ:=Lib.hid (size_list s)
 have NL:=Lib.hid (show (splitL s.data.toList).length≤s.size+1 by
  have e:=startsFrom_length (splitL s.data.toList) 0
  have e2:=starts_length s.data.toList
  have e3:=List.count_le_length (a:=(10:UInt8)) (l:=s.data.toList)
  have e4:=size_list s
  unfold starts at e2
  omega)
 clear hown hbel hcur
 go_wp2_with fail
 go_loopw [2,17] (fun lv iv wr=>∃k:Nat,k≤(splitL s.data.toList).length∧iv=.int .i64 k∧Hid (wr.ownsRow w.heap.size 61 1 lv (k+1) (((starts s.data.toList).take (k+1)).map intV)) ∧
   Hid (wr.heap[g]?=some (.cells cur 9 (0,0)))∧Hid (Below w.heap.size w wr)) (fun _ iv _=>(splitL s.data.toList).length-(intOf iv).toNat)
 case atStart=>exact ⟨0,Nat.zero_le _,rfl,hl0,hg,hb0⟩
 case round =>
  obtain ⟨k,hk,rfl,HO,HG,HB⟩:=hrel
  have HBs:=Lib.hid HB.out.size
  by_cases hlt:k<(splitL s.data.toList).length
  ·have hk1:k<(starts s.data.toList).length:=by have:=N.out;omega
   have cp:wr.cell? ⟨g,k,none⟩=some (.string ⟨(splitL s.data.toList)[k].toArray⟩):=by rw [cells_of_heap HG.out k];exact Hcur.out k hlt
   obtain ⟨gl,capl,rfl,_,_⟩:=HO.out.form (by omega)
   have cl:wr.cell? ⟨gl,k,none⟩=some (.int .i64 (((starts s.data.toList)[k]:Nat):Int)):=by
    rw [HO.out.cellAt k (by omega)]
    simp [intV,hk1]
   have hT:=Lib.hid (HT.out k hlt (by have:=N.out;omega))
   have hx:ByteArray.size ⟨(splitL s.data.toList)[k].toArray⟩=(splitL s.data.toList)[k].length:=by simp [ByteArray.size]
   have HX:=Lib.hid hx
   have b1:(splitL s.data.toList)[k].length≤1000000:=by have:=HP.out k hlt;have:=SZ.out;omega
   have b2:(starts s.data.toList)[k]≤1000001:=by have:=HL.out k hk1;have:=SZ.out;omega
   have b3:=NL.out
   clear hx
   generalize (starts s.data.toList)[k]=a at cl hT b2
   generalize (⟨(splitL s.data.toList)[k].toArray⟩:ByteArray)=x at cp HX
   have b4:x.size≤1000000:=by have:=HX.out;omega
   go_wp2_with (at_builtin;refine wpList_append_el _ rfl _ _ 66 rfl w.heap.size 61 i0 _ 1 8 Tryz.underlying66 HI.out.1 HI.out.2.1 HI.out.2.2.1 HI.out.2.2.2 rfl (by decide) (.slice (some ⟨gl,0,none⟩) (k+1) capl) _ _ rfl HO.out [Value.int .i64 ((a:Int)+(x.size:Int)+1)] rfl rfl (one_int _) (by omega) (by unfold maxLen;omega) HBs.out ?_;intro v' w2 o1 g1 n1;have O1:=Lib.hid o1;have G1:=Lib.hid g1;clear o1 g1 n1)
   have hlg:=own_ne HO.out HG.out (by decide)
   refine ⟨⟨k+1,by omega,by go_num, ?_, ?_,HB.out.grown G1.out HBs.out fun j hj=>(HO.out.lt j hj).1⟩,by simp [intOf];omega⟩
   ·have h:=O1.out
    show World.ownsRow _ _ _ _ _ _ _
    rw [show k+1+1=k+2 from rfl,hT.out,List.map_append]
    have e:Value.int .i64 ((a:Int)+(x.size:Int)+1)=intV (a+(splitL s.data.toList)[k].length+1):=by
     unfold intV
     rw [←HX.out]
     congr 1
    rw [e] at h
    exact h
   ·show _=_
    rw [G1.out.block g (lt_of_heap HG.out) (by simpa [Value.ownBlock] using fun e=>hlg e.symm)]
    exact HG.out
  ·have hkn:k=(splitL s.data.toList).length:=by omega
   subst hkn
   have HFr:=Lib.hid ((HB.out.block f hfl).trans HF.out)
   have cf:wr.cell? ⟨f,2,none⟩=some (.slice none 0 0):=cells_of_heap HFr.out 2
   have ff:wr.frozen? ⟨f,2,none⟩=false:=free_of_heap HFr.out 2
   obtain ⟨gl,capl,rfl,_,_⟩:=HO.out.form (by omega)
   go_wp2
   go_end0
   have hall:(starts s.data.toList).take ((splitL s.data.toList).length+1)=starts s.data.toList:=by rw [←N.out];exact List.take_length
   have hO:=HO.out
   rw [hall] at hO
   have hfg:f≠gl:=by
    have:=(hO.lt gl (by simp [Value.ownBlock])).1
    omega
   refine ⟨rfl,⟨gl,capl,⟨p, ?_⟩,fun j=>?_⟩,grown_set (grown_below HB.out (some f)) 2 _⟩
   ·rw [set_of_heap HFr.out 2,N.out]
    simp
   ·by_cases hj:j<(starts s.data.toList).length
    ·refine .inl ?_
     rw [World.cell?_setCell_other wr ⟨f,2,none⟩ ⟨gl,j,none⟩ _ (fun e=>hfg (congrArg Addr.block e))]
     exact hO.cellAt j (by have:=N.out;omega)
    ·exact .inr (by omega)
/-- A token.File over the text s, its table laid or not. -/
def FileOk (w:World) (f:Nat) (s:ByteArray):Prop:=FreshFile w f s∨Lined w f s
theorem init_any (s:ByteArray) (f:Nat) (w:World) (hs:s.size≤1000000) (h:FileOk w f s) :
  Calls Tryz.prog 62 #[.pointer (some ⟨f,0,none⟩)] w (InitNew s f w):=by
 rcases h with h|h
 ·exact init_new s f w hs h
 ·exact (init_old s f w h).mono fun e w' ⟨he,hw⟩=>⟨he,hw▸h,hw▸grown_refl w _⟩
/-- What ResolvePos answers: the line, the column; the table lies behind the call. -/
def Resolved (s:ByteArray) (f n:Nat) (w:World) (e:Ending) (w':World):Prop :=
 e=.returned (.tuple #[.int .i64 (feeds s.data.toList n:Nat),.int .i64 ((n:Int)-(startOf s.data.toList n:Nat))])∧Lined w' f s∧w.grownBy w' (some f)
set_option maxHeartbeats 4000000 in
set_option maxRecDepth 100000 in
theorem resolve_any (s:ByteArray) (f n:Nat) (w:World) (hs:s.size≤1000000) (hn:n≤s.size) (h:FileOk w f s) :
  Calls Tryz.prog 43 #[.pointer (some ⟨f,0,none⟩),.int .i64 (n:Int)] w (Resolved s f n w):=by
 have HH:=Lib.hid h
 clear h
 go_enter Tryz.func43,Tryz.ntmps43
 go_wp2_with (first|(go_at_call 62;refine (init_any s _ _ hs HH.out).mono ?_;rintro e w1 ⟨rfl,hl,hg⟩;refine Hid.out ?_)|(go_at_call 44;go_in))
 refine Lib.hid ?_
 obtain ⟨g,cap,hL⟩:=hl
 obtain ⟨⟨p,hf⟩,_⟩:=id hL
 have c2:w1.cell? ⟨f,2,none⟩=some (.slice (some ⟨g,0,none⟩) (starts s.data.toList).length cap):=cells_of_heap hf 2
 have HL:=Lib.hid hL
 have HG:=Lib.hid hg
 have HF:=Lib.hid (feeds_lt s.data.toList n)
 have HI:=Lib.hid (fun i hi=>starts_le_iff s.data.toList n i hi (by rw [size_list];exact hn))
 have HS:=Lib.hid (startOf_eq s.data.toList n)
 have HB:=Lib.hid (starts_pos s.data.toList)
 have HM:=Lib.hid (show (starts s.data.toList).length≤1000002 by
  have e2:=starts_length s.data.toList
  have e3:=List.count_le_length (a:=(10:UInt8)) (l:=s.data.toList)
  have e4:=size_list s
  omega)
 have b1:=HM.out
 have b2:=HB.out
 clear hf hL hg
 go_wp2_with fail
 go_loop [4] (fun i=>∃k:Nat,Hid (feeds s.data.toList n≤k)∧k<(starts s.data.toList).length∧i=.int .i64 k) (fun i=>(intOf i).toNat)
 case atStart=>exact ⟨(starts s.data.toList).length-1,(by have:=HF.out;show _≤_;omega),by omega,by congr 1;omega⟩
 case round =>
  obtain ⟨k,HK,hk,rfl⟩:=hrel
  have cl:=HL.out.cell k hk
  have b3:(starts s.data.toList)[k]≤1000001:=by have:=starts_last s.data.toList k hk;have:=size_list s;omega
  have T:=Lib.hid (HI.out k hk)
  have S:=Lib.hid (fun e:k=feeds s.data.toList n=>(show (starts s.data.toList)[k]=startOf s.data.toList n by subst e;exact HS.out hk))
  generalize (starts s.data.toList)[k]=x at cl b3 T S
  by_cases hle:x≤n
  ·go_wp2
   go_ret2
   have e:k=feeds s.data.toList n:=by have:=T.out.1 hle;have:=HK.out;omega
   have ex:=S.out e
   refine ⟨?_,⟨g,cap,HL.out⟩,HG.out⟩
   rw [←e,←ex]
   rfl
  ·have hk0:1≤k:=by
    have h1:=HK.out
    have h2:=T.out
    omega
   go_wp2
   go_round
   case rel=>exact ⟨k-1,(by have h1:=HK.out;have h2:=T.out;show _≤_;omega),by omega,by congr 1;omega⟩
   case measure=>simp [intOf];omega
end Go.Proofs.YtaamolahbkgofaaGreatDoor.lines
namespace Go.Proofs.YtaamolahbkgofaaGreatDoor.lex
open Go.RowKit mem
theorem ret_u8 {a b:Int} (h:a=b):Ending.returned (.int .u8 a)=.returned (.int .u8 b):=by rw [h]
/-- The byte at a place of a text, as a number; -1 where there is none. -/
def bt (s:ByteArray) (k:Nat):Int:=if h:k<s.size then (s[k].toNat:Int) else -1
/-- Whether a place lies in a text. -/
def inB (s:ByteArray) (k:Nat):Bool:=decide (k<s.size)
/-- Whether a byte stands at a place of a text. -/
def isB (s:ByteArray) (k:Nat) (c:Int):Bool:=decide (k<s.size)&&(bt s k==c)
theorem bt_in {s:ByteArray} {k:Nat} (h:k<s.size):bt s k=(s[k].toNat:Int):=by simp [bt,h]
theorem bt_lt (s:ByteArray) (k:Nat):bt s k≤255:=by
 unfold bt
 split
 ·have:=s[k].toNat_lt;omega
 ·omega
theorem isB_in {s:ByteArray} {k:Nat} {c:Int} (h:k<s.size):isB s k c=(bt s k==c):=by simp [isB,h]
theorem isB_out {s:ByteArray} {k:Nat} {c:Int} (h:¬k<s.size):isB s k c=false:=by simp [isB,h]
/-- The three cells that the lexer's small functions read. -/
structure At (w:World) (b f:Nat) (s:ByteArray) (p:Nat):Prop where
 file:w.cell? ⟨b,0,none⟩=some (.pointer (some ⟨f,0,none⟩))
 text:w.cell? ⟨f,1,none⟩=some (.string s)
 pos:w.cell? ⟨b,9,none⟩=some (.int .i64 (p:Int))
theorem At.drewN {w:World} {b f p:Nat} {s:ByteArray} (h:At w b f s p) (n:Nat):At (w.drewN n) b f s p:=⟨h.file,h.text,h.pos⟩
section
variable {b f p:Nat} {s:ByteArray} {w:World}
theorem eof_any (h:At w b f s p) (_hs:s.size≤1000000) (_hp:p≤1000000) :
  Calls Tryz.prog 72 #[.pointer (some ⟨b,0,none⟩)] w fun e w'=>e=.returned (.bool (!(inB s p)))∧∃n,w'=w.drewN n:=by
 obtain ⟨c0,c1,c9⟩:=h
 go_enter Tryz.func72,Tryz.ntmps72
 go_wp2
 go_quiet (fail)
 go_wp2
 go_ret
 exact ⟨ret_bool (by rw [Bool.eq_iff_iff];simp [inB]),_,rfl⟩
theorem peekOk_any (i:Nat) (h:At w b f s p) (_hs:s.size≤1000000) (_hp:p≤1000000) (_hi:i≤1000000) :
  Calls Tryz.prog 78 #[.pointer (some ⟨b,0,none⟩),.int .i64 (i:Int)] w fun e w'=>e=.returned (.bool (inB s (p+i)))∧∃n,w'=w.drewN n:=by
 obtain ⟨c0,c1,c9⟩:=h
 go_enter Tryz.func78,Tryz.ntmps78
 go_wp2
 go_quiet (fail)
 go_wp2
 go_ret
 exact ⟨ret_bool (by rw [Bool.eq_iff_iff];simp [inB];omega),_,rfl⟩
set_option maxRecDepth 100000 in
theorem peek_any (i:Nat) (h:At w b f s p) (hi:p+i<s.size) (_hs:s.size≤1000000) :
  Calls Tryz.prog 80 #[.pointer (some ⟨b,0,none⟩),.int .i64 (i:Int)] w fun e w'=>e=.returned (.int .u8 (bt s (p+i)))∧∃n,w'=w.drewN n:=by
 obtain ⟨c0,c1,c9⟩:=h
 have B:=Lib.hid (bt_in hi)
 have w1:IntKind.i64.wrap ((p:Int)+(i:Int))=(p:Int)+(i:Int):=IntWalk.i64_in _ (by omega)
 have w2:0≤(p:Int)+(i:Int):=by omega
 have w3:((p:Int)+(i:Int)).toNat=p+i:=by omega
 have w4:(p:Int)+(i:Int)<(s.size:Int):=by omega
 go_enter Tryz.func80,Tryz.ntmps80
 go_wp2
 go_quiet (fail)
 go_wp2
 go_ret
 exact ⟨ret_u8 B.out.symm,_,rfl⟩
set_option maxHeartbeats 1000000 in
set_option maxRecDepth 100000 in
theorem peekIs_any (i:Nat) (c:Int) (h:At w b f s p) (_hs:s.size≤1000000) (hp:p≤1000000) (hi:i≤1000000) :
  Calls Tryz.prog 76 #[.pointer (some ⟨b,0,none⟩),.int .i64 (i:Int),.int .u8 c] w fun e w'=>e=.returned (.bool (isB s (p+i) c))∧∃n,w'=w.drewN n:=by
 obtain ⟨c0,c1,c9⟩:=h
 have w1:IntKind.i64.wrap ((p:Int)+(i:Int))=(p:Int)+(i:Int):=IntWalk.i64_in _ (by omega)
 have w2:0≤(p:Int)+(i:Int):=by omega
 have w3:((p:Int)+(i:Int)).toNat=p+i:=by omega
 by_cases hin:p+i<s.size
 ·have B:=Lib.hid (bt_in hin)
  have B2:=Lib.hid (isB_in (c:=c) hin)
  have w4:(p:Int)+(i:Int)<(s.size:Int):=by omega
  have w5:decide ((p:Int)+(i:Int)<(s.size:Int))=true:=by simp;omega
  go_enter Tryz.func76,Tryz.ntmps76
  go_wp2
  go_quiet (fail)
  go_wp2
  go_ret
  exact ⟨ret_bool (by rw [B2.out,B.out]),_,rfl⟩
 ·have B2:=Lib.hid (isB_out (c:=c) hin)
  have w5:decide ((p:Int)+(i:Int)<(s.size:Int))=false:=by simp;omega
  go_enter Tryz.func76,Tryz.ntmps76
  go_wp2
  go_quiet (fail)
  go_wp2
  go_ret
  exact ⟨ret_bool (by rw [B2.out]),_,rfl⟩
set_option maxRecDepth 100000 in
theorem skipN_any (n:Nat) (h:w.cell? ⟨b,9,none⟩=some (.int .i64 (p:Int))) (h0:w.frozen? ⟨b,9,none⟩=false) (_hp:p≤1000000) (_hn:n≤1000000) :
  Calls Tryz.prog 75 #[.pointer (some ⟨b,0,none⟩),.int .i64 (n:Int)] w fun e w'=>e=.returned (.tuple #[])∧w.setCell ⟨b,9,none⟩ (.int .i64 ((p+n:Nat):Int))=w':=by
 go_enter Tryz.func75,Tryz.ntmps75
 go_wp2
 go_end0
 exact ⟨rfl,rfl⟩
set_option maxRecDepth 100000 in
theorem skip_any (h:At w b f s p) (h0:w.frozen? ⟨b,9,none⟩=false) (_hs:s.size≤1000000) (hp:p<s.size) :
  Calls Tryz.prog 81 #[.pointer (some ⟨b,0,none⟩)] w fun e w'=>e=.returned (.int .u8 (bt s p))∧∃n,w'=(w.drewN n).setCell ⟨b,9,none⟩ (.int .i64 ((p+1:Nat):Int)):=by
 obtain ⟨c0,c1,c9⟩:=h
 have B:=Lib.hid (bt_in hp)
 have w4:(p:Int)<(s.size:Int):=by omega
 go_enter Tryz.func81,Tryz.ntmps81
 go_wp2
 go_quiet (fail)
 go_wp2
 go_ret
 exact ⟨ret_u8 B.out.symm,_,rfl⟩
set_option maxHeartbeats 1000000 in
set_option maxRecDepth 100000 in
theorem slice_any (a e:Nat) (h:At w b f s p) (hs:s.size≤1000000) (hp:p≤1000000) (ha:p+a≤s.size) (hae:a≤e) (he:e≤1000000) :
  Calls Tryz.prog 91 #[.pointer (some ⟨b,0,none⟩),.int .i64 (a:Int),.int .i64 (e:Int)] w fun e' w'=>e'=.returned (.string (s.extract (p+a) (min (p+e) s.size)))∧∃n,w'=w.drewN n:=by
 obtain ⟨c0,c1,c9⟩:=h
 by_cases hin:s.size<p+e
 ·have w1:IntKind.i64.wrap ((p:Int)+(e:Int))=(p:Int)+(e:Int):=IntWalk.i64_in _ (by omega)
  have w2:decide ((s.size:Int)<(p:Int)+(e:Int))=true:=by simp;omega
  have M:=Lib.hid (show min (p+e) s.size=s.size by omega)
  have w3:IntKind.i64.wrap ((s.size:Int)-(p:Int))=(s.size:Int)-(p:Int):=IntWalk.i64_in _ (by omega)
  have w4:IntKind.i64.wrap ((p:Int)+((s.size:Int)-(p:Int)))=(s.size:Int):=by rw [IntWalk.i64_in _ (by omega)];omega
  have w5:IntKind.i64.wrap ((p:Int)+(a:Int))=(p:Int)+(a:Int):=IntWalk.i64_in _ (by omega)
  have w6:((p:Int)+(a:Int)).toNat=p+a:=by omega
  have w7:0≤(p:Int)+(a:Int):=by omega
  have w8:(p:Int)+(a:Int)≤(s.size:Int):=by omega
  go_enter Tryz.func91,Tryz.ntmps91
  go_wp2
  go_quiet (fail)
  go_wp2
  go_quiet (fail)
  go_wp2
  go_quiet (fail)
  go_wp2
  go_ret
  exact ⟨ret_str (by rw [M.out]),_,by rw [World.drewN_drewN,World.drewN_drewN]⟩
 ·have w1:IntKind.i64.wrap ((p:Int)+(e:Int))=(p:Int)+(e:Int):=IntWalk.i64_in _ (by omega)
  have w2:decide ((s.size:Int)<(p:Int)+(e:Int))=false:=by simp;omega
  have M:=Lib.hid (show min (p+e) s.size=p+e by omega)
  have w5:IntKind.i64.wrap ((p:Int)+(a:Int))=(p:Int)+(a:Int):=IntWalk.i64_in _ (by omega)
  have w6:((p:Int)+(a:Int)).toNat=p+a:=by omega
  have w7:0≤(p:Int)+(a:Int):=by omega
  have w8:(p:Int)+(a:Int)≤(p:Int)+(e:Int):=by omega
  have w9:((p:Int)+(e:Int)).toNat=p+e:=by omega
  have w10:(p:Int)+(e:Int)≤(s.size:Int):=by omega
  have w11:0≤(p:Int)+(e:Int):=by omega
  go_enter Tryz.func91,Tryz.ntmps91
  go_wp2
  go_quiet (fail)
  go_wp2
  go_quiet (fail)
  go_wp2
  go_ret
  exact ⟨ret_str (by rw [M.out]),_,by rw [World.drewN_drewN]⟩
end
end Go.Proofs.YtaamolahbkgofaaGreatDoor.lex
namespace Go.Proofs.YtaamolahbkgofaaGreatDoor.plain
/-- The capital of a byte (the letters a to z turn, all else stays). -/
def up (c:UInt8):UInt8:=if 97≤c.toNat∧c.toNat≤122 then UInt8.ofNat (c.toNat-32) else c
/-- The other case of a letter. -/
def flip (c:UInt8):UInt8:=c ^^^ 32
/-- A letter, small or capital. -/
def alpha (c:UInt8):Bool:=decide ((97≤c.toNat∧c.toNat≤122)∨(65≤c.toNat∧c.toNat≤90))
theorem all_bytes {p:UInt8→Prop} (h:∀n:Fin 256,p (UInt8.ofNat n.val)) (c:UInt8):p c:=by
 have:=h ⟨c.toNat,c.toNat_lt⟩
 simpa using this
theorem up_hit {c:UInt8} (h:97≤c.toNat∧c.toNat≤122):((up c).toNat:Int)=(c.toNat:Int)-32:=by
 unfold up
 have hs:UInt8.size=256:=rfl
 rw [if_pos h,UInt8.toNat_ofNat_of_lt' (by omega)]
 omega
theorem up_miss {c:UInt8} (h:¬(97≤c.toNat∧c.toNat≤122)):up c=c:=by
 unfold up
 rw [if_neg h]
theorem flip_num (c:UInt8):bits .xor .u8 (c.toNat:Int) 32=((flip c).toNat:Int):=by
 revert c
 refine all_bytes ?_
 decide +kernel
theorem up_flip (c:UInt8) (h:alpha c=true):up (flip c)=up c:=by
 revert c
 refine all_bytes ?_
 decide +kernel
theorem alpha_flip (c:UInt8) (h:alpha c=true):alpha (flip c)=true:=by
 revert c
 refine all_bytes ?_
 decide +kernel
theorem up_lt (c:UInt8) (h:c.toNat<128):(up c).toNat<128:=by
 revert c
 refine all_bytes ?_
 decide +kernel
/-- The text in capitals. -/
def upper (l:List UInt8):List UInt8:=l.map up
/-- r is l, but for the case of some of its letters. -/
def CaseOf (l r:List UInt8):Prop:=r.length=l.length∧∀j (h:j<l.length) (h':j<r.length),r[j]=l[j]∨(alpha l[j]=true∧r[j]=flip l[j])
theorem CaseOf.refl (l:List UInt8):CaseOf l l:=⟨rfl,fun _ _ _=>.inl rfl⟩
theorem CaseOf.upper {l r:List UInt8} (h:CaseOf l r):upper r=upper l:=by
 refine List.ext_getElem (by simp [plain.upper,h.1]) fun j h1 h2=>?_
 have j1:j<r.length:=by simpa [plain.upper] using h1
 have j2:j<l.length:=by simpa [plain.upper] using h2
 simp only [plain.upper,List.getElem_map]
 rcases h.2 j j2 j1 with e|⟨ha,e⟩
 ·rw [e]
 ·rw [e,up_flip _ ha]
/-- What the loop of upper has made of the text behind k rounds. -/
def upTo (k:Nat) (l:List UInt8):List UInt8:=l.mapIdx fun j c=>if j<k then up c else c
theorem upTo_length (k:Nat) (l:List UInt8):(upTo k l).length=l.length:=by simp [upTo]
theorem upTo_zero (l:List UInt8):upTo 0 l=l:=List.ext_getElem (by simp [upTo]) fun j h1 h2=>by simp [upTo]
theorem upTo_all (l:List UInt8):upTo l.length l=upper l:=List.ext_getElem (by simp [upTo,upper]) fun j h1 h2=>by
 have hj:j<l.length:=by simpa [upTo] using h1
 simp [upTo,upper,hj]
theorem upTo_get (k:Nat) (l:List UInt8) (h:k<l.length) (h':k<(upTo k l).length):(upTo k l)[k]=l[k]:=by simp [upTo]
theorem upTo_succ (k:Nat) (l:List UInt8) (h:k<l.length):upTo (k+1) l=(upTo k l).set k (up l[k]):=by
 refine List.ext_getElem (by simp [upTo_length]) fun j h1 h2=>?_
 rw [List.getElem_set]
 by_cases e:k=j
 ·subst e
  simp [upTo]
 ·rw [if_neg e]
  have hj:j<k+1↔j<k:=⟨fun _=>by omega,fun _=>by omega⟩
  simp [upTo,hj]
theorem upTo_skip (k:Nat) (l:List UInt8) (h:k<l.length) (hu:up l[k]=l[k]):upTo (k+1) l=upTo k l:=by
 rw [upTo_succ k l h,hu]
 refine List.ext_getElem (by simp) fun j h1 h2=>?_
 rw [List.getElem_set]
 split
 ·rename_i e
  subst e
  rw [upTo_get k l h]
 ·rfl
/-- Behind k rounds of turned: a case variant whose places from k on stand as they were. -/
def TurnTo (k:Nat) (l r:List UInt8):Prop:=CaseOf l r∧∀j (h:j<l.length) (h':j<r.length),k≤j→r[j]=l[j]
theorem TurnTo.zero (l:List UInt8):TurnTo 0 l l:=⟨CaseOf.refl l,fun _ _ _ _=>rfl⟩
theorem TurnTo.skip {k:Nat} {l r:List UInt8} (h:TurnTo k l r):TurnTo (k+1) l r:=⟨h.1,fun j h1 h2 hk=>h.2 j h1 h2 (by omega)⟩
theorem TurnTo.turn {k:Nat} {l r:List UInt8} (h:TurnTo k l r) (hk:k<l.length) (ha:alpha l[k]=true):TurnTo (k+1) l (r.set k (flip l[k])):=by
 refine ⟨⟨by simp [h.1.1],fun j h1 h2=>?_⟩,fun j h1 h2 hj=>?_⟩
 ·rw [List.getElem_set]
  split
  ·rename_i e
   subst e
   exact .inr ⟨ha,rfl⟩
  ·exact h.1.2 j h1 (by simpa using h2)
 ·rw [List.getElem_set,if_neg (by omega)]
  exact h.2 j h1 (by simpa using h2) (by omega)
end Go.Proofs.YtaamolahbkgofaaGreatDoor.plain
namespace Go.Proofs.YtaamolahbkgofaaGreatDoor.lx
abbrev Bs:=List UInt8
/-! ### Bytes -/
def dig (c:UInt8):Bool:=decide (48≤c.toNat∧c.toNat≤57)
def hex (c:UInt8):Bool:=decide ((48≤c.toNat∧c.toNat≤57)∨(97≤c.toNat∧c.toNat≤102)∨(65≤c.toNat∧c.toNat≤70))
def oct (c:UInt8):Bool:=decide (48≤c.toNat∧c.toNat≤55)
def idS (c:UInt8):Bool:=decide ((97≤c.toNat∧c.toNat≤122)∨(65≤c.toNat∧c.toNat≤90)∨c.toNat=95)
def idP (c:UInt8):Bool:=decide ((48≤c.toNat∧c.toNat≤57)∨(97≤c.toNat∧c.toNat≤122)∨(65≤c.toNat∧c.toNat≤90)∨c.toNat=95)
/-- The byte at a place, as a number; 256 where there is none. -/
def nb (t:Bs) (i:Nat):Nat:=match t[i]? with|some c=>c.toNat|none=>256
/-! ### Blanks -/
/-- Of how many bytes is the white space that a text begins with; 0: it begins with none. -/
abbrev spLen (t:Bs):Nat:=Lib.headSpace t
def spacesN:Nat→Bs→Nat
 | 0,_=>0
 | n+1,t=>if spLen t=0 then 0 else spLen t+spacesN n (t.drop (spLen t))
/-- How many bytes of white space a text begins with. -/
def spaces (t:Bs):Nat:=spacesN t.length t
/-! ### Comments -/
/-- How many bytes up to the next line feed and with it, or to the end. -/
def lineEnd:Bs→Nat
 | []=>0
 | c::r=>if c.toNat=10 then 1 else 1+lineEnd r
/-- How many bytes up to the next star with a slash behind it and with these, if there is one. -/
def blockEnd:Bs→Option Nat
 | []=>none
 | c::r=>if c.toNat=42∧nb r 0=47 then some 2 else (blockEnd r).map (·+1)
/-- The comment that a text begins with: none; one of so many bytes; one that isn't closed. -/
inductive Com where
 | no
 | some (n:Nat)
 | open_
def comment (t:Bs):Com :=
 if nb t 0=35∨(nb t 0=45∧nb t 1=45) then .some (lineEnd t)
 else if nb t 0=47∧nb t 1=42 then (match blockEnd t with|some n=>.some n|none=>.open_)
 else .no
/-- The comments ahead of a token, each with the length of the blanks ahead of it and its own; then the blanks directly ahead of the token; none: the last comment isn't closed (it is the last one listed, and goes to the end). -/
def aheadN:Nat→Bs→List (Nat × Nat) × Option Nat
 | 0,t=>([],some (spaces t))
 | n+1,t=>match comment (t.drop (spaces t)) with
  | .no=>([],some (spaces t))
  | .open_=>([(spaces t,(t.drop (spaces t)).length)],none)
  | .some m=>((spaces t,m)::(aheadN n (t.drop (spaces t+m))).1,(aheadN n (t.drop (spaces t+m))).2)
def ahead (t:Bs):List (Nat × Nat) × Option Nat:=aheadN t.length t
/-! ### Tokens -/
/-- What reading one token comes to: a token (its kind, how many bytes, its text, its base, whether a field name may follow, if that is told anew); a bad one of so many bytes; a fault; an end that the program does not survive. -/
inductive Out where
 | tok (kind:Bs) (len:Nat) (text:Bs) (base:Nat) (dot:Option Bool)
 | bad (len:Nat)
 | fault
 | crash
def kEof:Bs:=[60,101,111,102,62]
def kIdent:Bs:=[60,105,100,101,110,116,62]
def kParam:Bs:=[60,112,97,114,97,109,62]
def kInt:Bs:=[60,105,110,116,62]
def kFloat:Bs:=[60,102,108,111,97,116,62]
def kString:Bs:=[60,115,116,114,105,110,103,62]
def kBytes:Bs:=[60,98,121,116,101,115,62]
def kBad:Bs:=[60,98,97,100,62]
/-- How many letters, digits and underscores a text begins with. -/
def idLen:Bs→Nat
 | []=>0
 | c::r=>if idP c then 1+idLen r else 0
/-- Behind which kinds of tokens a dot is one of a path. -/
def dotKind (k:Bs):Bool:=k==kIdent||k==kParam||k==[41]||k==[93]
/-- The number's own bytes, from a place in it on: how many, and whether it is an integer. -/
def numScan (b16:Bool):Nat→Bool→Bool→Bs→Nat × Bool
 | 0,int,_,_=>(0,int)
 | _+1,int,_,[]=>(0,int)
 | n+1,int,exp,c::r =>
  if !b16&&dig c then ((numScan b16 n int exp r).1+1,(numScan b16 n int exp r).2)
  else if b16&&hex c then ((numScan b16 n int exp r).1+1,(numScan b16 n int exp r).2)
  else if !exp&&int&&!b16&&c.toNat==46 then ((numScan b16 n false exp r).1+1,(numScan b16 n false exp r).2)
  else if !exp&&!b16&&(c.toNat==69||c.toNat==101) then
   (if nb r 0=43∨nb r 0=45 then
    (if 48≤nb r 1∧nb r 1≤57 then ((numScan b16 n false true (r.drop 1)).1+2,(numScan b16 n false true (r.drop 1)).2) else (0,int))
   else (if 48≤nb r 0∧nb r 0≤57 then ((numScan b16 n false true r).1+1,(numScan b16 n false true r).2) else (0,int)))
  else (0,int)
def isId (n:Nat):Bool:=decide ((48≤n∧n≤57)∨(97≤n∧n≤122)∨(65≤n∧n≤90)∨n=95)
/-- A number. -/
def number (np:Bool) (t:Bs):Out :=
 let b16:=decide (nb t 0=48)&&(decide (nb t 1=120)||decide (nb t 1=88))
 let r:=if b16 then ((numScan true t.length true false (t.drop 2)).1+2,(numScan true t.length true false (t.drop 2)).2) else numScan false t.length true false t
 if isId (nb t r.1) then (if np then .bad r.1 else .fault)
 else if r.2 then .tok kInt r.1 [] (if b16 then 16 else 10) none
 else .tok kFloat r.1 [] 0 none
/-! ### Strings, bytes and names in quotes -/
/-- What the inside of a quoted token comes to: its end (so many bytes from its beginning on) and its value; a bad one; a fault; an end that the program does not survive. -/
inductive QOut where
 | ok (len:Nat) (content:Bs)
 | bad (len:Nat)
 | fault
 | crash
def hexVal (c:UInt8):Nat:=if c.toNat≤57 then c.toNat-48 else if c.toNat≤70 then c.toNat-55 else c.toNat-87
/-- The number that digits of a base are, behind another number. -/
def digits (base:Nat):Nat→Bs→Nat
 | v,[]=>v
 | v,c::r=>digits base (v*base+hexVal c) r
def byteOf (n:Nat):UInt8:=UInt8.ofNat n
/-- One step within quotes: the end; or so many bytes further, with this value and this mark of a fault. -/
inductive Step where
 | stop (o:QOut)
 | more (k:Nat) (content:Bs) (err:Bool)
/-- An escape of size digits that ok takes, behind a backslash and a letter (k bytes of it are read already, pre are its digits among them): v turns the digits into what is added. -/
def escape (np:Bool) (size:Nat) (good:UInt8→Bool) (r:Bs) (content:Bs) (hit:Step):Step :=
 if size≤r.length∧(r.take size).all good=true then hit
 else if np then (if r.length<size∧r.all good=true then .stop .crash else .more 2 content true)
 else if r.length<size∧r.all good=true then .stop .crash
 else .stop .fault
def simple (c:UInt8):Option UInt8 :=
 if c.toNat=97 then some 7 else if c.toNat=98 then some 8 else if c.toNat=102 then some 12 else if c.toNat=110 then some 10 else if c.toNat=114 then some 13
 else if c.toNat=116 then some 9 else if c.toNat=118 then some 11 else if c.toNat=92∨c.toNat=63∨c.toNat=34∨c.toNat=39∨c.toNat=96 then some c else none
def qStep (q:Bs) (raw uni idn np:Bool) (i:Nat) (u:Bs) (content:Bs) (err:Bool):Step :=
 match u with
 | []=>if np then .stop (.bad i) else .stop .fault
 | c::r =>
  if u.take q.length=q then
   (if content=[]∧idn=true then (if np then .stop (.bad (i+q.length)) else .stop .fault)
   else if err then .stop (.bad (i+q.length)) else .stop (.ok (i+q.length) content))
  else if c.toNat=92 then
   (match r with
   | []=>if np then .stop (.bad (i+1)) else .stop .fault
   | d::r' =>
    if raw then .more 2 (content++[92,d]) err
    else match simple d with
     | some x=>.more 2 (content++[x]) err
     | none =>
      if d.toNat=120∨d.toNat=88 then escape np 2 hex r' content (.more 4 (content++[byteOf (digits 16 0 (r'.take 2))]) err)
      else if d.toNat=117∨d.toNat=85 then
       (if uni then
        escape np (if d.toNat=85 then 8 else 4) hex r' content
         (if (55296≤digits 16 0 (r'.take (if d.toNat=85 then 8 else 4))∧digits 16 0 (r'.take (if d.toNat=85 then 8 else 4))≤57343)∨1114111<digits 16 0 (r'.take (if d.toNat=85 then 8 else 4)) then
          (if np then .more 2 content true else .stop .fault)
         else .more (2+(if d.toNat=85 then 8 else 4)) (content++Lib.encodeRune (digits 16 0 (r'.take (if d.toNat=85 then 8 else 4)):Nat)) err)
       else if np then .more 2 content true else .stop .fault)
      else if 48≤d.toNat∧d.toNat≤51 then escape np 2 oct r' content (.more 4 (content++[byteOf (digits 8 (hexVal d) (r'.take 2))]) err)
      else if np then .more 2 content true else .stop .fault)
  else if c.toNat=10∧q.length≠3 then (if np then .more 1 content true else .stop .fault)
  else .more 1 (content++[c]) err
/-- What stands within quotes, from a place in it on. -/
def quoN (q:Bs) (raw uni idn np:Bool):Nat→Nat→Bs→Bs→Bool→QOut
 | 0,_,_,_,_=>.crash
 | n+1,i,u,content,err=>match qStep q raw uni idn np i u content err with
  | .stop o=>o
  | .more k content' err'=>quoN q raw uni idn np n (i+k) (u.drop k) content' err'
def quoted (q:Bs) (raw uni idn np:Bool) (t:Bs):QOut:=quoN q raw uni idn np (t.length+1) q.length (t.drop q.length) [] false
/-- The marks that a string begins with: one, or three. -/
def delim (t:Bs):Bs:=match t with
 | []=>[]
 | c::r=>if nb r 0=c.toNat∧nb r 1=c.toNat then [c,c,c] else [c]
/-- The letters ahead of a string: bytes, raw, how many. -/
def prefx:Nat→Bool→Bool→Bs→Option (Bool × Bool × Nat)
 | 0,_,_,_=>none
 | _+1,_,_,[]=>none
 | n+1,by_,ra,c::r =>
  if by_=false∧(c.toNat=66∨c.toNat=98) then (prefx n true ra r).map fun x=>(x.1,x.2.1,x.2.2+1)
  else if ra=false∧(c.toNat=82∨c.toNat=114) then (prefx n by_ true r).map fun x=>(x.1,x.2.1,x.2.2+1)
  else if c.toNat=34∨c.toNat=39 then some (by_,ra,0)
  else none
/-- A quoted token whose kind is k, with i bytes ahead of its marks. -/
def ofQ (k:Bs) (i:Nat):QOut→Out
 | .ok len content=>.tok k (i+len) content 0 none
 | .bad len=>.bad (i+len)
 | .fault=>.fault
 | .crash=>.crash
def strTok (by_ ra np:Bool) (i:Nat) (t:Bs):Out:=ofQ (if by_ then kBytes else kString) i (quoted (delim (t.drop i)) ra (!by_) false np (t.drop i))
/-! ### One token -/
/-- The keywords, in capitals. -/
def kws:List Bs:=[
 [65,76,76],[65,78,68],[65,78,89],[65,82,82,65,89],[65,83],[65,83,67],[65,83,83,69,82,84,95,82,79,87,83,95,77,79,68,73,70,73,69,68],[65,84],
 [66,69,84,87,69,69,78],[66,89],[67,65,83,69],[67,65,83,84],[67,79,76,76,65,84,69],[67,79,78,84,65,73,78,83],[67,82,69,65,84,69],[67,82,79,83,83],
 [67,85,66,69],[67,85,82,82,69,78,84],[68,69,70,65,85,76,84],[68,69,70,73,78,69],[68,69,83,67],[68,73,83,84,73,78,67,84],[69,76,83,69],[69,78,68],
 [69,78,85,77],[69,83,67,65,80,69],[69,88,67,69,80,84],[69,88,67,76,85,68,69],[69,88,73,83,84,83],[69,88,84,82,65,67,84],[70,65,76,83,69],
 [70,69,84,67,72],[70,79,76,76,79,87,73,78,71],[70,79,82],[70,82,79,77],[70,85,76,76],[71,82,65,80,72,95,84,65,66,76,69],[71,82,79,85,80],
 [71,82,79,85,80,73,78,71],[71,82,79,85,80,83],[72,65,83,72],[72,65,86,73,78,71],[73,71,78,79,82,69],[73,70],[73,78],[73,78,78,69,82],
 [73,78,84,69,82,83,69,67,84],[73,78,84,69,82,86,65,76],[73,78,84,79],[73,83],[74,79,73,78],[76,65,84,69,82,65,76],[76,69,70,84],[76,73,75,69],
 [76,73,77,73,84],[76,79,79,75,85,80],[77,69,82,71,69],[78,65,84,85,82,65,76],[78,69,87],[78,79],[78,79,84],[78,85,76,76],[78,85,76,76,83],[79,70],[79,78],
 [79,82],[79,82,68,69,82],[79,85,84,69,82],[79,86,69,82],[80,65,82,84,73,84,73,79,78],[80,82,69,67,69,68,73,78,71],[80,82,79,84,79],[82,65,78,71,69],
 [82,69,67,85,82,83,73,86,69],[82,69,83,80,69,67,84],[82,73,71,72,84],[82,79,76,76,85,80],[82,79,87,83],[83,69,76,69,67,84],[83,69,84],[83,79,77,69],
 [83,84,82,85,67,84],[84,65,66,76,69,83,65,77,80,76,69],[84,72,69,78],[84,79],[84,82,69,65,84],[84,82,85,69],[85,78,66,79,85,78,68,69,68],
 [85,78,73,79,78],[85,78,78,69,83,84],[85,83,73,78,71],[87,72,69,78],[87,72,69,82,69],[87,73,78,68,79,87],[87,73,84,72],[87,73,84,72,73,78]]
def keyword (k:Bs):Bool:=kws.contains k
def isIdS (n:Nat):Bool:=decide ((97≤n∧n≤122)∨(65≤n∧n≤90)∨n=95)
def isDg (n:Nat):Bool:=decide (48≤n∧n≤57)
/-- A sign of one byte, or of this byte and another. -/
def sign2 (t:Bs) (c:UInt8) (ds:Bs):Out:=match ds with
 | []=>.tok [c] 1 [] 0 none
 | d::r=>if nb t 1=d.toNat then .tok [c,d] 2 [] 0 none else sign2 t c r
/-- A word, or a fault. -/
def word (np:Bool) (t:Bs):Out :=
 if isIdS (nb t 0) then
  (if keyword ((t.take (idLen t)).map plain.up) then .tok ((t.take (idLen t)).map plain.up) (idLen t) [] 0 none else .tok kIdent (idLen t) (t.take (idLen t)) 0 none)
 else if np then .bad 1 else .fault
/-- A token that is no field's name: last is the kind of the token before. -/
def token (np:Bool) (last:Bs) (t:Bs):Out :=
 match t with
 | []=>.tok kEof 0 [] 0 none
 | c::r =>
  if c∈([40,41,123,125,59,44,91,93,126,42,47,38,94,37,58,63,92,36]:Bs) then .tok [c] 1 [] 0 none
  else if c=46 then (if dotKind last=false∧isDg (nb r 0)=true then number np t else .tok [46] 1 [] 0 (some (dotKind last)))
  else if c=60 then sign2 t 60 [60,61,62]
  else if c=62 then sign2 t 62 [62,61]
  else if c=43 then sign2 t 43 [61]
  else if c=45 then sign2 t 45 [61,62]
  else if c=61 then sign2 t 61 [62]
  else if c=124 then sign2 t 124 [62,124]
  else if c=33 then sign2 t 33 [61]
  else if c=64 then
   (if nb r 0=64 then .tok [64,64] 2 [] 0 none
   else if isIdS (nb r 0) then .tok kParam (1+idLen r) (r.take (idLen r)) 0 none
   else .tok [64] 1 [] 0 none)
  else if c=96 then ofQ kIdent 0 (quoted [96] false true true np t)
  else if dig c then number np t
  else if c∈([66,98,82,114,34,39]:Bs) then
   (match prefx 3 false false t with
   | some (by_,ra,i)=>strTok by_ ra np i t
   | none=>word np t)
  else word np t
/-- A token behind a dot of a path: a field's name, or another token. -/
def field (np:Bool) (last:Bs) (t:Bs):Out :=
 if isId (nb t 0) then .tok kIdent (idLen t) (t.take (idLen t)) 0 none else token np last t
end Go.Proofs.YtaamolahbkgofaaGreatDoor.lx
namespace Go.Proofs.YtaamolahbkgofaaGreatDoor.lex
open Go.RowKit mem lines
/-- The library's tables, as the lexer's functions need them. -/
structure TabsAt (w:World):Prop where
 white:Lib.WhiteTab 2 w
 utf:Lib.Utf8Tabs 3 4 w
 pow:Lib.TabIs Tryz.prog w "internal/strconv.uint64pow10" .u64 Lib.pow10Tab
 rng:∃ev,w.cell? ⟨8,0,none⟩=some ev∧(ev=.nilIface∨∃te pe,ev=.iface te pe)
 syn:∃ev,w.cell? ⟨7,0,none⟩=some ev∧(ev=.nilIface∨∃te pe,ev=.iface te pe)
theorem lt_of_cell {w:World} {a:Addr} {v:Value} (hc:w.cell? a=some v):a.block<w.heap.size:=by
 rcases Nat.lt_or_ge a.block w.heap.size with h'|h'
 ·exact h'
 ·simp [World.cell?,Array.getElem?_eq_none h'] at hc
theorem powGlobal:Tryz.prog.globalNamed "internal/strconv.uint64pow10"=some 6:=by kernel_rfl
theorem TabsAt.below {w w':World} (h:TabsAt w) (hb:Below w.heap.size w w'):TabsAt w':=by
 refine ⟨WhiteTab_below h.white hb,Utf8Tabs_below h.utf hb, ?_, ?_, ?_⟩
 ·have hp:=h.pow
  unfold Lib.TabIs World.var? at hp ⊢
  rw [powGlobal] at hp ⊢
  simp only [Option.bind_some] at hp ⊢
  have hlt:6<w.heap.size:=by
   rcases Nat.lt_or_ge 6 w.heap.size with h'|h'
   ·exact h'
   ·rw [Array.getElem?_eq_none h'] at hp;cases hp
  rw [hb.block 6 hlt]
  exact hp
 ·obtain ⟨ev,h1,h2⟩:=h.rng
  exact ⟨ev,(hb.cell (lt_of_cell h1)).trans h1,h2⟩
 ·obtain ⟨ev,h1,h2⟩:=h.syn
  exact ⟨ev,(hb.cell (lt_of_cell h1)).trans h1,h2⟩
/-- The tables lie among the first B blocks. -/
def Tabs (B:Nat) (w:World):Prop:=∃W,W.heap.size=B∧TabsAt W∧Below B W w
theorem Tabs.at {B:Nat} {w:World} (h:Tabs B w):TabsAt w:=by
 obtain ⟨W,rfl,h1,h2⟩:=h
 exact h1.below h2
theorem Tabs.le {B:Nat} {w:World} (h:Tabs B w):B≤w.heap.size:=by
 obtain ⟨W,rfl,h1,h2⟩:=h
 exact h2.size
theorem Tabs.grown {B b:Nat} {w w':World} (h:Tabs B w) (hb:B≤b) (hg:w.grownBy w' (some b)):Tabs B w':=by
 obtain ⟨W,rfl,h1,h2⟩:=h
 refine ⟨W,rfl,h1,⟨hg.os.trans h2.os,hg.tape.trans h2.tape,hg.output.trans h2.output,Nat.le_trans h2.size hg.size,fun i hi=>?_⟩⟩
 exact (hg.block i (Nat.lt_of_lt_of_le hi h2.size) (by simp;omega)).trans (h2.block i hi)
theorem Tabs.drewN {B:Nat} {w:World} (h:Tabs B w) (n:Nat):Tabs B (w.drewN n):=by
 obtain ⟨W,rfl,h1,h2⟩:=h
 exact ⟨W,rfl,h1,⟨h2.os,h2.tape,h2.output,h2.size,h2.block⟩⟩
/-- What the lexer's cells hold. -/
structure St where
 kind:ByteArray
 coms:Value
 sp:ByteArray
 raw:ByteArray
 str:ByteArray
 base:Int
 pos:Nat
 fin:Nat
 at_:Nat
 last:ByteArray
 dot:Bool
def St.cells (x:St) (f:Nat):Array Value :=
 #[.pointer (some ⟨f,0,none⟩),.string x.kind,x.coms,.string x.sp,.string x.raw,.string x.str,.int .i64 x.base,.int .i64 (x.pos:Int),.int .i64 (x.fin:Int),.int .i64 (x.at_:Int),.string x.last,.bool x.dot]
/-- Block b is a lexer over block f, a file over the text s. -/
structure LexS (w:World) (B b f:Nat) (s:ByteArray) (x:St):Prop where
 tabs:Tabs B w
 hb:B≤b
 hf:B≤f
 ne:b≠f
 lex:w.heap[b]?=some (.cells (x.cells f) 65 (0,0))
 file:FreshFile w f s
 sz:s.size≤20000
 le:x.at_≤s.size
section
variable {w w':World} {B b f:Nat} {s:ByteArray} {x x':St}
theorem LexS.cell (h:LexS w B b f s x) (i:Nat):w.cell? ⟨b,i,none⟩=(x.cells f)[i]?:=cells_of_heap h.lex i
theorem LexS.free (h:LexS w B b f s x) (i:Nat):w.frozen? ⟨b,i,none⟩=false:=free_of_heap h.lex i
theorem LexS.text (h:LexS w B b f s x):w.cell? ⟨f,1,none⟩=some (.string s):=by
 obtain ⟨p,hf⟩:=h.file
 exact cells_of_heap hf 1
theorem LexS.at (h:LexS w B b f s x):At w b f s x.at_:=⟨h.cell 0,h.text,h.cell 9⟩
theorem LexS.drewN (h:LexS w B b f s x) (n:Nat):LexS (w.drewN n) B b f s x:=⟨h.tabs.drewN n,h.hb,h.hf,h.ne,h.lex,h.file,h.sz,h.le⟩
theorem LexS.lt (h:LexS w B b f s x):b<w.heap.size:=lt_of_heap h.lex
theorem LexS.below (h:LexS w B b f s x) (hb:Below w.heap.size w w'):LexS w' B b f s x :=
 ⟨h.tabs.grown (Nat.le_refl _) (grown_below hb _),h.hb,h.hf,h.ne,(hb.block b h.lt).trans h.lex,by
  obtain ⟨p,hp⟩:=h.file
  exact ⟨p,(hb.block f (lt_of_heap hp)).trans hp⟩,h.sz,h.le⟩
theorem LexS.set (h:LexS w B b f s x) (i:Nat) (v:Value) (x':St) (he:(x.cells f).setIfInBounds i v=x'.cells f) (hl:x'.at_≤s.size):LexS (w.setCell ⟨b,i,none⟩ v) B b f s x' :=
 ⟨h.tabs.grown h.hb (grown_set (grown_refl w (some b)) i v),h.hb,h.hf,h.ne,by rw [set_of_heap h.lex i v,he],by
  obtain ⟨p,hp⟩:=h.file
  exact ⟨p,(Below.heap_setCell w ⟨b,i,none⟩ v f (Ne.symm h.ne)).trans hp⟩,h.sz,hl⟩
end
/-- The lexer's place. -/
def placeIn (w:World) (b:Nat):Nat:=match w.cell? ⟨b,9,none⟩ with|some (.int _ n)=>n.toNat|_=>0
theorem LexS.place {w:World} {B b f:Nat} {s:ByteArray} {x:St} (h:LexS w B b f s x):placeIn w b=x.at_:=by
 unfold placeIn
 rw [h.cell 9]
 simp [St.cells]
/-- A function of the lexer comes back and leaves the lexer so. -/
def Goes (B b f:Nat) (s:ByteArray) (x':St) (w:World) (e:Ending) (w':World):Prop:=e=.returned (.tuple #[])∧LexS w' B b f s x'∧w.grownBy w' (some b)
/-- .. and answers. -/
def Says (v:Value) (B b f:Nat) (s:ByteArray) (x':St) (w:World) (e:Ending) (w':World):Prop:=e=.returned v∧LexS w' B b f s x'∧w.grownBy w' (some b)
/-- Whatever lay, lies, but for two blocks. -/
structure Grown2 (b f:Nat) (w w':World):Prop where
 os:w'.os=w.os
 tape:w'.tape=w.tape
 output:w'.output=w.output
 size:w.heap.size≤w'.heap.size
 block:∀i,i<w.heap.size→i≠b→i≠f→w'.heap[i]?=w.heap[i]?
theorem Grown2.of {b f:Nat} {w w':World} (h:w.grownBy w' (some b)):Grown2 b f w w':=⟨h.os,h.tape,h.output,h.size,fun i hi h1 _=>h.block i hi (by simp;omega)⟩
theorem Grown2.ofF {b f:Nat} {w w':World} (h:w.grownBy w' (some f)):Grown2 b f w w':=⟨h.os,h.tape,h.output,h.size,fun i hi _ h1=>h.block i hi (by simp;omega)⟩
theorem Grown2.trans {b f:Nat} {u v w:World} (h:Grown2 b f u v) (k:Grown2 b f v w):Grown2 b f u w :=
 ⟨k.os.trans h.os,k.tape.trans h.tape,k.output.trans h.output,Nat.le_trans h.size k.size,fun i hi h1 h2=>(k.block i (Nat.lt_of_lt_of_le hi h.size) h1 h2).trans (h.block i hi h1 h2)⟩
/-- The error that a lexer's panic carries: block m, whose place is block q. -/
def ErrAt (m:Nat) (w:World):Prop:=∃msg q pv,w.heap[m]?=some (.cells #[.string msg,.pointer (some ⟨q,0,none⟩)] 86 (0,0))∧w.cell? ⟨q,1,none⟩=some (.int .i64 pv)
/-- A function of the lexer leaves by its own panic. -/
def Faults (b f:Nat) (w:World) (e:Ending) (w':World):Prop :=
 ∃m,e=.panicked [{ v:=.iface 80 (.pointer (some ⟨m,0,none⟩)),recovered:=false }]∧w.heap.size≤m∧ErrAt m w'∧Grown2 b f w w'
theorem Faults.trans {b f:Nat} {u w w':World} {e:Ending} (h:Grown2 b f u w) (k:Faults b f w e w'):Faults b f u e w':=by
 obtain ⟨m,he,hm,hE,hG⟩:=k
 exact ⟨m,he,Nat.le_trans h.size hm,hE,h.trans hG⟩
/-! ### Bytes of a text, from a place on -/
abbrev rest (s:ByteArray) (p:Nat):lx.Bs:=s.data.toList.drop p
theorem rest_length (s:ByteArray) (p:Nat):(rest s p).length=s.size-p:=by simp [rest]
theorem rest_get (s:ByteArray) (p i:Nat) (h:p+i<s.size):(rest s p)[i]?=some s[p+i]:=by
 have h':p+i<s.data.size:=h
 simp only [rest,List.getElem?_drop,Array.getElem?_toList]
 rw [Array.getElem?_eq_getElem h']
 rfl
theorem nb_in (s:ByteArray) (p i:Nat) (h:p+i<s.size):(lx.nb (rest s p) i:Int)=bt s (p+i):=by
 rw [lx.nb,rest_get s p i h,bt_in h]
theorem nb_out (s:ByteArray) (p i:Nat) (h:¬p+i<s.size):lx.nb (rest s p) i=256:=by
 have:(rest s p)[i]?=none:=by
  apply List.getElem?_eq_none
  rw [rest_length];omega
 rw [lx.nb,this]
theorem isB_nb (s:ByteArray) (p i:Nat) (c:Int) (hc:c≤255):isB s (p+i) c=decide ((lx.nb (rest s p) i:Int)=c):=by
 by_cases h:p+i<s.size
 ·rw [isB_in h,nb_in s p i h,Bool.eq_iff_iff];simp
 ·rw [isB_out h,nb_out s p i h]
  symm
  simp
  omega
theorem inB_nb (s:ByteArray) (p i:Nat):inB s (p+i)=decide (lx.nb (rest s p) i<256):=by
 by_cases h:p+i<s.size
 ·have e:=nb_in s p i h
  have:=bt_lt s (p+i)
  simp [inB,h]
  omega
 ·rw [nb_out s p i h]
  simp [inB]
  omega
theorem rest_cons (s:ByteArray) (p:Nat) (h:p<s.size):rest s p=s[p]::rest s (p+1):=by
 have h':p<s.data.toList.length:=by simpa using h
 show s.data.toList.drop p=_
 rw [List.drop_eq_getElem_cons h']
 rfl
theorem rest_nil (s:ByteArray) (p:Nat) (h:¬p<s.size):rest s p=[]:=List.drop_eq_nil_of_le (by simp;omega)
theorem rest_drop (s:ByteArray) (p k:Nat):(rest s p).drop k=rest s (p+k):=by simp [rest,List.drop_drop]
end Go.Proofs.YtaamolahbkgofaaGreatDoor.lex
