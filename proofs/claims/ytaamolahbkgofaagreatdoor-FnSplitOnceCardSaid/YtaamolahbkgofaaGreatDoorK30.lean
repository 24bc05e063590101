/-
  The lexer's nextToken, walked. Conditions: in its statement.
-/
import Derived.Test.YtaamolahbkgofaaGreatDoorK05
import Derived.Test.YtaamolahbkgofaaGreatDoorK29
set_option linter.unusedVariables false
set_option linter.unusedSimpArgs false
namespace Go.Proofs.YtaamolahbkgofaaGreatDoor.lex
open Go.RowKit mem lines
theorem comm_open_true {w w':World} {e:Ending} {B b f:Nat} {s:ByteArray} {y:St} (h:CommPost true B b f s y .open_ w e w'):Says (.bool true) B b f s { y with at_:=s.size } w e w':=by simpa [CommPost] using h
theorem comm_open_false {w w':World} {e:Ending} {B b f:Nat} {s:ByteArray} {y:St} (h:CommPost false B b f s y .open_ w e w'):Faults b f w e w':=by simpa [CommPost] using h
theorem lex_at {w:World} {B b f n m:Nat} {s:ByteArray} {y:St} (h:LexS w B b f s { y with at_:=n }) (e:n=m):LexS w B b f s { y with at_:=m }:=e▸h
def St.ahead (y:St) (sp:ByteArray) (p:Nat):St:={ y with sp:=sp,pos:=p }
theorem Fits.ge {y z:St} {o:lx.Out} (h:Fits y z o):y.at_≤z.at_:=by
 cases o with
 | tok kk len text base d=>rw [show z=_ from h];simp
 | bad len=>rw [h.2.1];omega
 | fault=>exact h.elim
 | crash=>exact h.elim
theorem open_post {w wr w9:World} {B b f:Nat} {s:ByteArray} {x:St} {k a m:Nat} {cs:List (Nat × Nat)} {v v':Value} {G:lx.Got} (hI:NI w B b f s x k cs v wr) (hm:s.size=k+a+m)
  (hG:G=.tok ⟨lx.kBad,lx.comsOf x.at_ (rest s x.at_) (cs++[(a,m)]),[],[],[],0,s.size,s.size⟩ x.dot) (hl:LexS w9 B b f s (x.fresh (k+a+m) v')) (hg:w.grownBy w9 (some b))
  (hr:w9.ownsRow w.heap.size 88 4 v' (cs.length+1) ((lx.comsOf x.at_ (rest s x.at_) cs).flatMap comV++[.string (s.extract k (k+a)),.string (s.extract (k+a) (k+a+m)),.int .i64 ((k:Int)+a),.int .i64 ((k+a+m:Nat):Int)])) (hb:b<w.heap.size) :
  NextPost B b f s x G w (.returned (.tuple #[])) (((w9.setCell ⟨b,7,none⟩ (.int .i64 ((k:Int)+(a:Int)+(m:Int)))).setCell ⟨b,8,none⟩ (.int .i64 ((k:Int)+(a:Int)+(m:Int)))).setCell ⟨b,1,none⟩ (.string ⟨#[60,98,97,100,62]⟩)):=by
 subst hG
 have e:(k:Int)+(a:Int)+(m:Int)=((k+a+m:Nat):Int):=by omega
 rw [e]
 refine ⟨{ x.fresh (k+a+m) v' with pos:=k+a+m,fin:=k+a+m,kind:=⟨lx.kBad.toArray⟩ },rfl, ?_,grown_set (grown_set (grown_set hg 7 _) 8 _) 1 _,⟨rfl, ?_,rfl,rfl,.inl rfl,hm.symm,hm.symm,hm.symm⟩,rfl,rfl⟩
 ·exact ((hl.set 7 _ { x.fresh (k+a+m) v' with pos:=k+a+m } rfl hl.le).set 8 _ { x.fresh (k+a+m) v' with pos:=k+a+m,fin:=k+a+m } rfl hl.le).set 1 _ _ rfl hl.le
 ·have h1:=row_kept hr hb (grown_set (grown_set (grown_set (grown_refl w9 (some b)) 7 (.int .i64 ((k+a+m:Nat):Int))) 8 (.int .i64 ((k+a+m:Nat):Int))) 1 (.string ⟨#[60,98,97,100,62]⟩))
  rw [←hI.coms a m] at h1
  have e2:(lx.comsOf x.at_ (rest s x.at_) (cs++[(a,m)])).length=cs.length+1:=by rw [lx.comsOf_length,List.length_append];rfl
  show World.ownsRow _ _ 88 4 v' (lx.comsOf x.at_ (rest s x.at_) (cs++[(a,m)])).length _
  rw [e2]
  exact h1
theorem no_post {w wr w10:World} {B b f:Nat} {s:ByteArray} {x z:St} {k a:Nat} {cs:List (Nat × Nat)} {v:Value} {G:lx.Got} {o:lx.Out} {d:Bool} (hI:NI w B b f s x k cs v wr)
  (hG:G=lx.gotOf x.at_ (rest s x.at_) x.dot (lx.comsOf x.at_ (rest s x.at_) cs) (lx.comsLen cs) a o) (hz:Fits ((x.fresh (k+a) v).ahead (s.extract k (k+a)) (k+a)) z o) (hd:d=if x.dot then false else z.dot)
  (hl:LexS w10 B b f s { z with dot:=d }) (hg:w.grownBy w10 (some b)) (hr:w10.ownsRow w.heap.size 88 4 v cs.length ((lx.comsOf x.at_ (rest s x.at_) cs).flatMap comV)) (hb:b<w.heap.size) :
  NextPost B b f s x G w (.returned (.tuple #[])) (((w10.setCell ⟨b,4,none⟩ (.string (s.extract (k+a) z.at_))).setCell ⟨b,8,none⟩ (.int .i64 (z.at_:Int))).drew):=by
 subst hG
 have hk:=hI.at_
 have hlx:LexS (((w10.setCell ⟨b,4,none⟩ (.string (s.extract (k+a) z.at_))).setCell ⟨b,8,none⟩ (.int .i64 (z.at_:Int))).drew) B b f s { z with dot:=d,raw:=s.extract (k+a) z.at_,fin:=z.at_ } :=
  ((hl.set 4 _ { z with dot:=d,raw:=s.extract (k+a) z.at_ } rfl hl.le).set 8 _ { z with dot:=d,raw:=s.extract (k+a) z.at_,fin:=z.at_ } rfl hl.le).drewN 1
 have hgg:w.grownBy (((w10.setCell ⟨b,4,none⟩ (.string (s.extract (k+a) z.at_))).setCell ⟨b,8,none⟩ (.int .i64 (z.at_:Int))).drew) (some b):=grown_drew (grown_set (grown_set hg 4 _) 8 _)
 have hrr:(((w10.setCell ⟨b,4,none⟩ (.string (s.extract (k+a) z.at_))).setCell ⟨b,8,none⟩ (.int .i64 (z.at_:Int))).drew).ownsRow w.heap.size 88 4 v (lx.comsOf x.at_ (rest s x.at_) cs).length ((lx.comsOf x.at_ (rest s x.at_) cs).flatMap comV):=by
  rw [lx.comsOf_length]
  exact row_kept hr hb (grown_drew (grown_set (grown_set (grown_refl w10 (some b)) 4 _) 8 _))
 have e1:s.extract k (k+a)=⟨(((rest s x.at_).drop (lx.comsLen cs)).take a).toArray⟩:=by rw [extract_rest,rest_drop,←hk]
 have e2:∀len,s.extract (k+a) (k+a+len)=⟨(((rest s x.at_).drop (lx.comsLen cs+a)).take len).toArray⟩:=fun len=>by rw [extract_rest,rest_drop,←Nat.add_assoc,←hk]
 cases o with
 | fault=>exact hz.elim
 | crash=>exact hz.elim
 | tok kk len text base d0 =>
  have hz':z=_:=hz
  have hza:z.at_=k+a+len:=by rw [hz'];rfl
  refine ⟨_,rfl,hlx,hgg,⟨by rw [hz'],by rw [hz'];rw [hz'] at hrr;exact hrr,by rw [hz'];exact e1, ?_,.inr ⟨by rw [hz'],by rw [hz']⟩, ?_, ?_, ?_⟩, ?_,by rw [hz'];rfl⟩
  ·show s.extract (k+a) z.at_=_
   rw [hza]
   exact e2 len
  ·rw [hz']
   show k+a=x.at_+lx.comsLen cs+a
   rw [←hk]
  iterate 2
   ·show z.at_=x.at_+lx.comsLen cs+a+len
    rw [hza,←hk]
  ·show d=_
   rw [hd,hz']
   show (if x.dot=true then false else d0.getD x.dot)=(if x.dot=true then false else d0.getD false)
   cases x.dot <;> rfl
 | bad len =>
  obtain ⟨h1,h2,h3,h4,h5,h6,h7,h8,h9⟩:=hz
  have hza:z.at_=k+a+len:=h2
  refine ⟨_,rfl,hlx,hgg,⟨h1, ?_,h4.trans e1, ?_,.inl rfl, ?_, ?_, ?_⟩, ?_,h8⟩
  ·show World.ownsRow _ _ 88 4 z.coms _ _
   rw [show z.coms=v from h3]
   exact hrr
  ·show s.extract (k+a) z.at_=_
   rw [hza]
   exact e2 len
  ·show z.pos=x.at_+lx.comsLen cs+a
   rw [←hk]
   exact h6
  iterate 2
   ·show z.at_=x.at_+lx.comsLen cs+a+len
    rw [hza,←hk]
  ·show d=_
   rw [hd,show z.dot=x.dot from h9]
   cases x.dot <;> rfl
set_option maxHeartbeats 4000000 in
set_option maxRecDepth 100000 in
theorem next_any {w:World} {B b f:Nat} {s:ByteArray} {x:St} (np:Bool) (h:LexS w B b f s x) (hcr:lx.nextTok np x.at_ x.kind.data.toList x.dot (rest s x.at_)≠.crash) :
  Calls Tryz.prog 41 #[.pointer (some ⟨b,0,none⟩),.bool np] w (NextPost B b f s x (lx.nextTok np x.at_ x.kind.data.toList x.dot (rest s x.at_)) w):=by
 have HN:=Lib.hid (NI.start h)
 have SZ:=h.sz
 have LE:=h.le
 have c1:w.cell? ⟨b,1,none⟩=some (.string x.kind):=h.cell 1
 have c2:w.cell? ⟨b,2,none⟩=some x.coms:=h.cell 2
 have c3:w.cell? ⟨b,3,none⟩=some (.string x.sp):=h.cell 3
 have c4:w.cell? ⟨b,4,none⟩=some (.string x.raw):=h.cell 4
 have c5:w.cell? ⟨b,5,none⟩=some (.string x.str):=h.cell 5
 have c6:w.cell? ⟨b,6,none⟩=some (.int .i64 x.base):=h.cell 6
 have c7:w.cell? ⟨b,7,none⟩=some (.int .i64 (x.pos:Int)):=h.cell 7
 have c8:w.cell? ⟨b,8,none⟩=some (.int .i64 (x.fin:Int)):=h.cell 8
 have c10:w.cell? ⟨b,10,none⟩=some (.string x.last):=h.cell 10
 have f1:∀i,w.frozen? ⟨b,i,none⟩=false:=fun i=>h.free i
 have hB:=h.tabs.le
 have hbw:=h.lt
 have hfw:=h.flt
 obtain ⟨G,HGOT⟩:∃G,Hid (lx.nextTok np x.at_ x.kind.data.toList x.dot (rest s x.at_)=G):=⟨_,rfl⟩
 rw [HGOT.out] at hcr ⊢
 have HCR:=Lib.hid hcr
 clear h hcr
 go_enter Tryz.func41,Tryz.ntmps41
 go_wp2_with fail
 generalize (((((((((w.setCell ⟨b,10,none⟩ (.string x.kind)).setCell ⟨b,1,none⟩ (.string ⟨#[]⟩)).setCell ⟨b,2,none⟩ (.slice none 0 0)).setCell ⟨b,3,none⟩ (.string ⟨#[]⟩)).setCell ⟨b,4,none⟩ (.string ⟨#[]⟩)).setCell ⟨b,5,none⟩ (.string ⟨#[]⟩)).setCell ⟨b,6,none⟩ (.int .i64 0)).setCell ⟨b,7,none⟩ (.int .i64 0)).setCell ⟨b,8,none⟩ (.int .i64 0))=W0 at HN ⊢
 clear c1 c2 c3 c4 c5 c6 c7 c8 c10 f1
 go_loopw [4] (fun sv wr=>∃sp k cs v,sv=.string sp∧Hid (NI w B b f s x k cs v wr)) (fun _ wr=>s.size-placeIn wr b)
 case atStart=>exact ⟨_,_,_,_,rfl,HN⟩
 case round =>
  obtain ⟨sp,k,cs,v,rfl,HI⟩:=hrel
  clear HN
  have HL:=Lib.hid HI.out.lex
  have HG:=Lib.hid HI.out.grown
  have HR:=Lib.hid HI.out.row
  have KLE:=HI.out.le
  have c9:wr.cell? ⟨b,9,none⟩=some (.int .i64 (k:Int)):=HL.out.cell 9
  obtain ⟨a,HA⟩:∃a,Hid (lx.spaces (rest s k)=a):=⟨_,rfl⟩
  have hal:a≤s.size-k:=by
   have:=lx_spaces_le s k
   have:=HA.out
   omega
  go_wp2_with (first
   | (go_at_call 54;refine (skipSpaces_any HL.out).mono ?_;rintro e w5 ⟨rfl,hl,hg⟩;rw [show (x.fresh k v).at_=k from rfl,HA.out] at hl;have HR5:=Lib.hid (row_kept HR.out hbw hg);have HL5:=Lib.hid hl;have HG5:=Lib.hid (grown_trans HG.out hg);clear hl hg))
  have c0:w5.cell? ⟨b,0,none⟩=some (.pointer (some ⟨f,0,none⟩)):=HL5.out.at.file
  have c1:w5.cell? ⟨f,1,none⟩=some (.string s):=HL5.out.at.text
  have c5:w5.cell? ⟨b,9,none⟩=some (.int .i64 ((k+a:Nat):Int)):=HL5.out.at.pos
  have i1:(k:Int)≤((k+a:Nat):Int):=by omega
  have i2:((k+a:Nat):Int)≤(s.size:Int):=by omega
  have i3:((k:Int)).toNat=k:=by omega
  have i4:(((k+a:Nat):Int)).toNat=k+a:=by omega
  have i5:(0:Int)≤(k:Int):=by omega
  go_region
  obtain ⟨o,HO⟩:∃o,Hid (lx.comment (rest s (k+a))=o):=⟨_,rfl⟩
  have HL6:Hid (LexS w5.drew B b f s (x.fresh (k+a) v)):=HL5.out.drewN 1
  have HG6:=Lib.hid (grown_drewN HG5.out 1)
  have HR6:Hid (w5.drew.ownsRow w.heap.size 88 4 v cs.length ((lx.comsOf x.at_ (rest s x.at_) cs).flatMap comV)):=HR5.out
  change Hid (w.grownBy w5.drew (some b)) at HG6
  clear HR HR5 c0 c1 c5 HL5 HG5
  generalize w5.drew=w6 at HL6 HG6 HR6 ⊢
  have c6:w6.cell? ⟨b,9,none⟩=some (.int .i64 ((k+a:Nat):Int)):=HL6.out.at.pos
  have HC:Hid (Calls Tryz.prog 55 #[.pointer (some ⟨b,0,none⟩),.bool np] w6 (CommPost np B b f s (x.fresh (k+a) v) o w6)):=by
   have e:=skipComment_any np HL6.out
   rw [show (x.fresh (k+a) v).at_=k+a from rfl,HO.out] at e
   exact e
  cases o with
  | no =>
   have HNX:=Lib.hid (next_no HI.out HA.out HO.out np x.kind.data.toList x.dot)
   rw [HGOT.out] at HNX
   obtain ⟨o2,HOW⟩:∃o2,Hid (lx.own np x.kind.data.toList x.dot (rest s (k+a))=o2):=⟨_,rfl⟩
   rw [HOW.out] at HNX
   obtain ⟨dt,HDT⟩:∃dt,Hid (x.dot=dt):=⟨_,rfl⟩
   have hne:o2≠.crash:=by
    intro k
    rw [k] at HNX
    exact HCR.out HNX.out
   clear HCR
   have HY:Hid (∀W,LexS W B b f s (x.fresh (k+a) v)→LexS ((W.setCell ⟨b,3,none⟩ (.string (s.extract k (k+a)))).setCell ⟨b,7,none⟩ (.int .i64 ((k:Int)+(a:Int)))) B b f s ((x.fresh (k+a) v).ahead (s.extract k (k+a)) (k+a))):=fun W h=>by
    have e:(k:Int)+(a:Int)=((k+a:Nat):Int):=by omega
    rw [e]
    exact (h.set 3 (.string (s.extract k (k+a))) { x.fresh (k+a) v with sp:=s.extract k (k+a) } rfl h.le).set 7 _ ((x.fresh (k+a) v).ahead (s.extract k (k+a)) (k+a)) rfl h.le
   cases dt with
   | false =>
    have HT:Hid (∀W,LexS W B b f s ((x.fresh (k+a) v).ahead (s.extract k (k+a)) (k+a))→Calls Tryz.prog 57 #[.pointer (some ⟨b,0,none⟩),.bool np] W (TokPost B b f s ((x.fresh (k+a) v).ahead (s.extract k (k+a)) (k+a)) o2 W)):=fun W hW=>by
     have e:lx.token np x.kind.data.toList (rest s (k+a))=o2:=by rw [←HOW.out,HDT.out];rfl
     have h1:=token_any np x.kind.data.toList rfl hW rfl rfl (by show lx.token np x.kind.data.toList (rest s (k+a))≠_;rw [e];exact hne)
     rw [show lx.token np x.kind.data.toList (rest s ((x.fresh (k+a) v).ahead (s.extract k (k+a)) (k+a)).at_)=o2 from e] at h1
     exact h1
    by_cases hf:o2=.fault
    ·rw [hf] at HNX
     go_wp2_with (first
      | (go_at_call 55;refine HC.out.mono ?_;rintro e w7 ⟨rfl,hl,hg⟩;have HR7:=Lib.hid (row_kept HR6.out hbw hg);have HL7:=Lib.hid (show LexS w7 B b f s (x.fresh (k+a) v) from hl);have HG7:=Lib.hid (grown_trans HG6.out hg);clear hl hg;have c7:w7.cell? ⟨b,9,none⟩=some (.int .i64 ((k+a:Nat):Int)):=HL7.out.at.pos;have d3:w7.cell? ⟨b,3,none⟩=some (.string ⟨#[]⟩):=HL7.out.cell 3;have d7:w7.cell? ⟨b,7,none⟩=some (.int .i64 (0:Int)):=HL7.out.cell 7;have d11:w7.cell? ⟨b,11,none⟩=some (.bool false):=(HL7.out.cell 11).trans (by rw [←HDT.out];rfl);have fz:∀i,w7.frozen? ⟨b,i,none⟩=false:=fun i=>HL7.out.free i)
      | (go_at_call 57;refine (HT.out _ (HY.out _ HL7.out)).mono ?_;rw [hf];rintro e w9 ⟨q,rfl,hq⟩;have HQ:=Lib.hid hq;clear hq))
     have e:G=.fault:=HNX.out
     rw [e]
     exact ⟨rfl,Faults.trans (Grown2.of (grown_set (grown_set HG7.out 3 _) 7 _)) ⟨q,rfl,HQ.out⟩⟩
    ·go_wp2_with (first
      | (go_at_call 55;refine HC.out.mono ?_;rintro e w7 ⟨rfl,hl,hg⟩;have HR7:=Lib.hid (row_kept HR6.out hbw hg);have HL7:=Lib.hid (show LexS w7 B b f s (x.fresh (k+a) v) from hl);have HG7:=Lib.hid (grown_trans HG6.out hg);clear hl hg;have c7:w7.cell? ⟨b,9,none⟩=some (.int .i64 ((k+a:Nat):Int)):=HL7.out.at.pos;have d3:w7.cell? ⟨b,3,none⟩=some (.string ⟨#[]⟩):=HL7.out.cell 3;have d7:w7.cell? ⟨b,7,none⟩=some (.int .i64 (0:Int)):=HL7.out.cell 7;have d11:w7.cell? ⟨b,11,none⟩=some (.bool false):=(HL7.out.cell 11).trans (by rw [←HDT.out];rfl);have fz:∀i,w7.frozen? ⟨b,i,none⟩=false:=fun i=>HL7.out.free i)
      | (go_at_call 57;refine (HT.out _ (HY.out _ HL7.out)).mono ?_;rintro e w9 hp;obtain ⟨z,rfl,hl,hg,hz⟩:=TokPost.go hp hf hne;have HL9:=Lib.hid hl;have HG9:=Lib.hid (grown_trans (grown_set (grown_set HG7.out 3 _) 7 _) hg);have HR9:=Lib.hid (row_kept HR7.out hbw (grown_trans (grown_set (grown_set (grown_refl w7 (some b)) 3 _) 7 _) hg));have HZ:=Lib.hid hz;clear hp hl hg hz;have u11:w9.cell? ⟨b,11,none⟩=some (.bool z.dot):=HL9.out.cell 11;have g11:w9.frozen? ⟨b,11,none⟩=false:=HL9.out.free 11))
     have HL10:=HL9
     have HG10:=HG9
     have HR10:=HR9
     generalize w9=w10 at HL10 HG10 HR10 ⊢
     have zle:z.at_≤s.size:=HL10.out.le
     have zge:k+a≤z.at_:=Fits.ge HZ.out
     have u0:w10.cell? ⟨b,0,none⟩=some (.pointer (some ⟨f,0,none⟩)):=HL10.out.at.file
     have ut:w10.cell? ⟨f,1,none⟩=some (.string s):=HL10.out.at.text
     have u9:w10.cell? ⟨b,9,none⟩=some (.int .i64 (z.at_:Int)):=HL10.out.at.pos
     have u4:w10.cell? ⟨b,4,none⟩=some (.string z.raw):=HL10.out.cell 4
     have u8:w10.cell? ⟨b,8,none⟩=some (.int .i64 (z.fin:Int)):=HL10.out.cell 8
     have fr:∀i,w10.frozen? ⟨b,i,none⟩=false:=fun i=>HL10.out.free i
     have i1:((k+a:Nat):Int)≤(z.at_:Int):=by omega
     have i1':(k:Int)+(a:Int)≤(z.at_:Int):=by omega
     have i2:(z.at_:Int)≤(s.size:Int):=by omega
     have i3:(((k+a:Nat):Int)).toNat=k+a:=by omega
     have i3':((k:Int)+(a:Int)).toNat=k+a:=by omega
     have i4:((z.at_:Int)).toNat=z.at_:=by omega
     have i5:(0:Int)≤(k:Int)+(a:Int):=by omega
     clear u11 g11
     go_region
     go_wp2_with fail
     (first|go_end0|go_ret)
     exact no_post HI.out HNX.out HZ.out (by rw [HDT.out];rfl) HL10.out HG10.out HR10.out hbw
   | true =>
    have HT:Hid (∀W,LexS W B b f s ((x.fresh (k+a) v).ahead (s.extract k (k+a)) (k+a))→Calls Tryz.prog 56 #[.pointer (some ⟨b,0,none⟩),.bool np] W (TokPost B b f s ((x.fresh (k+a) v).ahead (s.extract k (k+a)) (k+a)) o2 W)):=fun W hW=>by
     have e:lx.field np x.kind.data.toList (rest s (k+a))=o2:=by rw [←HOW.out,HDT.out];rfl
     have h1:=field_any np x.kind.data.toList rfl hW rfl rfl (by show lx.field np x.kind.data.toList (rest s (k+a))≠_;rw [e];exact hne)
     rw [show lx.field np x.kind.data.toList (rest s ((x.fresh (k+a) v).ahead (s.extract k (k+a)) (k+a)).at_)=o2 from e] at h1
     exact h1
    by_cases hf:o2=.fault
    ·rw [hf] at HNX
     go_wp2_with (first
      | (go_at_call 55;refine HC.out.mono ?_;rintro e w7 ⟨rfl,hl,hg⟩;have HR7:=Lib.hid (row_kept HR6.out hbw hg);have HL7:=Lib.hid (show LexS w7 B b f s (x.fresh (k+a) v) from hl);have HG7:=Lib.hid (grown_trans HG6.out hg);clear hl hg;have c7:w7.cell? ⟨b,9,none⟩=some (.int .i64 ((k+a:Nat):Int)):=HL7.out.at.pos;have d3:w7.cell? ⟨b,3,none⟩=some (.string ⟨#[]⟩):=HL7.out.cell 3;have d7:w7.cell? ⟨b,7,none⟩=some (.int .i64 (0:Int)):=HL7.out.cell 7;have d11:w7.cell? ⟨b,11,none⟩=some (.bool true):=(HL7.out.cell 11).trans (by rw [←HDT.out];rfl);have fz:∀i,w7.frozen? ⟨b,i,none⟩=false:=fun i=>HL7.out.free i)
      | (go_at_call 56;refine (HT.out _ (HY.out _ HL7.out)).mono ?_;rw [hf];rintro e w9 ⟨q,rfl,hq⟩;have HQ:=Lib.hid hq;clear hq))
     have e:G=.fault:=HNX.out
     rw [e]
     exact ⟨rfl,Faults.trans (Grown2.of (grown_set (grown_set HG7.out 3 _) 7 _)) ⟨q,rfl,HQ.out⟩⟩
    ·go_wp2_with (first
      | (go_at_call 55;refine HC.out.mono ?_;rintro e w7 ⟨rfl,hl,hg⟩;have HR7:=Lib.hid (row_kept HR6.out hbw hg);have HL7:=Lib.hid (show LexS w7 B b f s (x.fresh (k+a) v) from hl);have HG7:=Lib.hid (grown_trans HG6.out hg);clear hl hg;have c7:w7.cell? ⟨b,9,none⟩=some (.int .i64 ((k+a:Nat):Int)):=HL7.out.at.pos;have d3:w7.cell? ⟨b,3,none⟩=some (.string ⟨#[]⟩):=HL7.out.cell 3;have d7:w7.cell? ⟨b,7,none⟩=some (.int .i64 (0:Int)):=HL7.out.cell 7;have d11:w7.cell? ⟨b,11,none⟩=some (.bool true):=(HL7.out.cell 11).trans (by rw [←HDT.out];rfl);have fz:∀i,w7.frozen? ⟨b,i,none⟩=false:=fun i=>HL7.out.free i)
      | (go_at_call 56;refine (HT.out _ (HY.out _ HL7.out)).mono ?_;rintro e w9 hp;obtain ⟨z,rfl,hl,hg,hz⟩:=TokPost.go hp hf hne;have HL9:=Lib.hid hl;have HG9:=Lib.hid (grown_trans (grown_set (grown_set HG7.out 3 _) 7 _) hg);have HR9:=Lib.hid (row_kept HR7.out hbw (grown_trans (grown_set (grown_set (grown_refl w7 (some b)) 3 _) 7 _) hg));have HZ:=Lib.hid hz;clear hp hl hg hz;have u11:w9.cell? ⟨b,11,none⟩=some (.bool z.dot):=HL9.out.cell 11;have g11:w9.frozen? ⟨b,11,none⟩=false:=HL9.out.free 11))
     have HL10:Hid (LexS (w9.setCell ⟨b,11,none⟩ (.bool false)) B b f s { z with dot:=false }):=HL9.out.set 11 (.bool false) { z with dot:=false } rfl HL9.out.le
     have HG10:=Lib.hid (grown_set HG9.out 11 (.bool false))
     have HR10:=Lib.hid (row_kept HR9.out hbw (grown_set (grown_refl w9 (some b)) 11 (.bool false)))
     generalize w9.setCell ⟨b,11,none⟩ (.bool false)=w10 at HL10 HG10 HR10 ⊢
     have zle:z.at_≤s.size:=HL10.out.le
     have zge:k+a≤z.at_:=Fits.ge HZ.out
     have u0:w10.cell? ⟨b,0,none⟩=some (.pointer (some ⟨f,0,none⟩)):=HL10.out.at.file
     have ut:w10.cell? ⟨f,1,none⟩=some (.string s):=HL10.out.at.text
     have u9:w10.cell? ⟨b,9,none⟩=some (.int .i64 (z.at_:Int)):=HL10.out.at.pos
     have u4:w10.cell? ⟨b,4,none⟩=some (.string z.raw):=HL10.out.cell 4
     have u8:w10.cell? ⟨b,8,none⟩=some (.int .i64 (z.fin:Int)):=HL10.out.cell 8
     have fr:∀i,w10.frozen? ⟨b,i,none⟩=false:=fun i=>HL10.out.free i
     have i1:((k+a:Nat):Int)≤(z.at_:Int):=by omega
     have i1':(k:Int)+(a:Int)≤(z.at_:Int):=by omega
     have i2:(z.at_:Int)≤(s.size:Int):=by omega
     have i3:(((k+a:Nat):Int)).toNat=k+a:=by omega
     have i3':((k:Int)+(a:Int)).toNat=k+a:=by omega
     have i4:((z.at_:Int)).toNat=z.at_:=by omega
     have i5:(0:Int)≤(k:Int)+(a:Int):=by omega
     clear u11 g11
     go_region
     go_wp2_with fail
     (first|go_end0|go_ret)
     exact no_post HI.out HNX.out HZ.out (by rw [HDT.out];rfl) HL10.out HG10.out HR10.out hbw
  | some m =>
   have hm1:1≤m∧k+a+m≤s.size:=by
    have h1:=lx.comment_size HO.out
    rw [rest_length] at h1
    omega
   have ne:(((k+a+m:Nat):Int)==((k+a:Nat):Int))=false:=by simp;omega
   go_wp2_with (first
    | (go_at_call 55;refine HC.out.mono ?_;rintro e w7 ⟨rfl,hl,hg⟩;have HR7:=Lib.hid (row_kept HR6.out hbw hg);have HL7:=Lib.hid (show LexS w7 B b f s (x.fresh (k+a+m) v) from hl);have HG7:=Lib.hid (grown_trans HG6.out hg);clear hl hg;have c7:w7.cell? ⟨b,9,none⟩=some (.int .i64 ((k+a+m:Nat):Int)):=HL7.out.at.pos))
   have hx7:x.at_≤20000:=by omega
   obtain ⟨i0,hi,hz0,hz1,hz2⟩:=info_parts comInfo
   have c0:w7.cell? ⟨b,0,none⟩=some (.pointer (some ⟨f,0,none⟩)):=HL7.out.at.file
   have ct:w7.cell? ⟨f,1,none⟩=some (.string s):=HL7.out.at.text
   have c2:w7.cell? ⟨b,2,none⟩=some v:=HL7.out.cell 2
   have d2:∀o,(w7.drew.alloc o).cell? ⟨b,2,none⟩=some v:=fun o=>((HL7.out.drewN 1).below (below_alloc w7.drew o)).cell 2
   have d3:∀o,(w7.alloc o).cell? ⟨b,2,none⟩=some v:=fun o=>(HL7.out.below (below_alloc w7 o)).cell 2
   have d0:∀o,(w7.drew.alloc o).cell? ⟨b,0,none⟩=some (.pointer (some ⟨f,0,none⟩)):=fun o=>((HL7.out.drewN 1).below (below_alloc w7.drew o)).at.file
   have dt:∀o,(w7.drew.alloc o).cell? ⟨f,1,none⟩=some (.string s):=fun o=>((HL7.out.drewN 1).below (below_alloc w7.drew o)).at.text
   have d9:∀o,(w7.drew.alloc o).cell? ⟨b,9,none⟩=some (.int .i64 ((k+a+m:Nat):Int)):=fun o=>((HL7.out.drewN 1).below (below_alloc w7.drew o)).at.pos
   have j1:(k:Int)+(a:Int)≤((k+a+m:Nat):Int):=by omega
   have j2:((k+a+m:Nat):Int)≤(s.size:Int):=by omega
   have j3:((k:Int)+(a:Int)).toNat=k+a:=by omega
   have j6:(k:Int)+(a:Int)≤(k:Int)+(a:Int)+(m:Int):=by omega
   have j7:(k:Int)+(a:Int)+(m:Int)≤(s.size:Int):=by omega
   have j8:((k:Int)+(a:Int)+(m:Int)).toNat=k+a+m:=by omega
   have j4:(((k+a+m:Nat):Int)).toNat=k+a+m:=by omega
   have j5:(0:Int)≤(k:Int)+(a:Int):=by omega
   have hcl:cs.length≤20000:=by have:=HI.out.at_;have:=HI.out.len;omega
   have hsz:w.heap.size≤w7.heap.size:=HG7.out.size
   clear i1 i2 i3 i4 i5
   refine wp_region_held_drew (S:=fun W=>W.cell? ⟨b,0,none⟩=some (.pointer (some ⟨f,0,none⟩))∧W.cell? ⟨f,1,none⟩=some (.string s)∧W.cell? ⟨b,9,none⟩=some (.int .i64 ((k+a+m:Nat):Int))) (by kernel_rfl) ⟨c0,ct,c7⟩ (fun hHeld=>?_)
   refine wpAnyH_take (i:=0) (v:=?v0c) rfl (by kernel_rfl) (by kernel_rfl) (by kernel_rfl) (fun _ _ _ h=>h) (Or.inl ⟨by rfl, ?hy0c⟩) (by assumption) ?r0c
   case hy0c=>(intro w hSw;(try dsimp only at hSw);go_simp;try with_reducible rfl)
   try simp only [Act.put,List.getElem_toArray,List.getElem_cons_zero,List.getElem_cons_succ,List.setIfInBounds_toArray,List.set_cons_zero,List.set_cons_succ]
   refine wpAnyH_take (i:=1) (v:=?v1c) rfl (by kernel_rfl) (by kernel_rfl) (by kernel_rfl) (fun _ _ _ h=>h) (Or.inl ⟨by rfl, ?hy1c⟩) (by assumption) ?r1c
   case hy1c=>(intro w hSw;(try dsimp only at hSw);go_simp;try with_reducible rfl)
   try simp only [Act.put,List.getElem_toArray,List.getElem_cons_zero,List.getElem_cons_succ,List.setIfInBounds_toArray,List.set_cons_zero,List.set_cons_succ]
   refine wpAnyH_take (i:=2) (v:=?v2c) rfl (by kernel_rfl) (by kernel_rfl) (by kernel_rfl) (fun _ _ _ h=>h) (Or.inl ⟨by rfl, ?hy2c⟩) (by assumption) ?r2c
   case hy2c=>(intro w hSw;(try dsimp only at hSw);go_simp;try with_reducible rfl)
   try simp only [Act.put,List.getElem_toArray,List.getElem_cons_zero,List.getElem_cons_succ,List.setIfInBounds_toArray,List.set_cons_zero,List.set_cons_succ]
   refine wpAnyH_take (i:=3) (v:=?v3c) rfl (by kernel_rfl) (by kernel_rfl) (by kernel_rfl) (fun _ _ _ h=>h) (Or.inl ⟨by rfl, ?hy3c⟩) (by assumption) ?r3c
   case hy3c=>(intro w hSw;(try dsimp only at hSw);go_simp;try with_reducible rfl)
   try simp only [Act.put,List.getElem_toArray,List.getElem_cons_zero,List.getElem_cons_succ,List.setIfInBounds_toArray,List.set_cons_zero,List.set_cons_succ]
   refine wpAnyH_take (i:=4) (v:=?v4c) rfl (by kernel_rfl) (by kernel_rfl) (by kernel_rfl) (fun _ _ _ h=>h) (Or.inl ⟨by rfl, ?hy4c⟩) (by assumption) ?r4c
   case hy4c=>(intro w hSw;(try dsimp only at hSw);go_simp;try with_reducible rfl)
   try simp only [Act.put,List.getElem_toArray,List.getElem_cons_zero,List.getElem_cons_succ,List.setIfInBounds_toArray,List.set_cons_zero,List.set_cons_succ]
   refine wpAnyH_take (i:=6) (v:=?v6c) rfl (by kernel_rfl) (by kernel_rfl) (by kernel_rfl) (fun _ _ _ h=>h) (Or.inl ⟨by rfl, ?hy6c⟩) (by assumption) ?r6c
   case hy6c=>(intro w hSw;(try dsimp only at hSw);go_simp;try with_reducible rfl)
   try simp only [Act.put,List.getElem_toArray,List.getElem_cons_zero,List.getElem_cons_succ,List.setIfInBounds_toArray,List.set_cons_zero,List.set_cons_succ]
   refine wpAnyH_take (i:=7) (v:=?v7c) rfl (by kernel_rfl) (by kernel_rfl) (by kernel_rfl) (fun _ _ _ h=>h) (Or.inl ⟨by rfl, ?hy7c⟩) (by assumption) ?r7c
   case hy7c=>(intro w hSw;(try dsimp only at hSw);go_simp;try with_reducible rfl)
   try simp only [Act.put,List.getElem_toArray,List.getElem_cons_zero,List.getElem_cons_succ,List.setIfInBounds_toArray,List.set_cons_zero,List.set_cons_succ]
   refine wpAnyH_take (i:=8) (v:=?v8c) rfl (by kernel_rfl) (by kernel_rfl) (by kernel_rfl) (fun _ _ _ h=>h) (Or.inl ⟨by rfl, ?hy8c⟩) (by assumption) ?r8c
   case hy8c=>(intro w hSw;(try dsimp only at hSw);go_simp;try with_reducible rfl)
   try simp only [Act.put,List.getElem_toArray,List.getElem_cons_zero,List.getElem_cons_succ,List.setIfInBounds_toArray,List.set_cons_zero,List.set_cons_succ]
   refine wpAnyH_take (i:=9) (v:=?v9c) rfl (by kernel_rfl) (by kernel_rfl) (by kernel_rfl) (fun _ _ _ h=>h) (Or.inl ⟨by rfl, ?hy9c⟩) (by assumption) ?r9c
   case hy9c=>(intro w hSw;(try dsimp only at hSw);go_simp;try with_reducible rfl)
   try simp only [Act.put,List.getElem_toArray,List.getElem_cons_zero,List.getElem_cons_succ,List.setIfInBounds_toArray,List.set_cons_zero,List.set_cons_succ]
   refine wpAnyH_take (i:=10) (v:=?v10c) rfl (by kernel_rfl) (by kernel_rfl) (by kernel_rfl) (fun _ _ _ h=>h) (Or.inl ⟨by rfl, ?hy10c⟩) (by assumption) ?r10c
   case hy10c=>(intro w hSw;(try dsimp only at hSw);go_simp;try with_reducible rfl)
   try simp only [Act.put,List.getElem_toArray,List.getElem_cons_zero,List.getElem_cons_succ,List.setIfInBounds_toArray,List.set_cons_zero,List.set_cons_succ]
   refine wpAnyH_take (i:=11) (v:=?v11c) rfl (by kernel_rfl) (by kernel_rfl) (by kernel_rfl) (fun _ _ _ h=>h) (Or.inl ⟨by rfl, ?hy11c⟩) (by assumption) ?r11c
   case hy11c=>(intro w hSw;(try dsimp only at hSw);go_simp;try with_reducible rfl)
   try simp only [Act.put,List.getElem_toArray,List.getElem_cons_zero,List.getElem_cons_succ,List.setIfInBounds_toArray,List.set_cons_zero,List.set_cons_succ]
   refine wpAnyH_take (i:=12) (v:=?v12c) rfl (by kernel_rfl) (by kernel_rfl) (by kernel_rfl) (fun _ _ _ h=>h) (Or.inl ⟨by rfl, ?hy12c⟩) (by assumption) ?r12c
   case hy12c=>(intro w hSw;(try dsimp only at hSw);go_simp;try with_reducible rfl)
   try simp only [Act.put,List.getElem_toArray,List.getElem_cons_zero,List.getElem_cons_succ,List.setIfInBounds_toArray,List.set_cons_zero,List.set_cons_succ]
   refine wpAnyH_take (i:=13) (v:=?v13c) rfl (by kernel_rfl) (by kernel_rfl) (by kernel_rfl) (fun _ _ _ h=>h) (Or.inl ⟨by rfl, ?hy13c⟩) (by assumption) ?r13c
   case hy13c=>(intro w hSw;(try dsimp only at hSw);go_simp;try with_reducible rfl)
   try simp only [Act.put,List.getElem_toArray,List.getElem_cons_zero,List.getElem_cons_succ,List.setIfInBounds_toArray,List.set_cons_zero,List.set_cons_succ]
   refine wpAnyH_take (i:=14) (v:=?v14c) rfl (by kernel_rfl) (by kernel_rfl) (by kernel_rfl) (fun _ _ _ h=>h) (Or.inl ⟨by rfl, ?hy14c⟩) (by assumption) ?r14c
   case hy14c=>(intro w hSw;(try dsimp only at hSw);go_simp;try with_reducible rfl)
   try simp only [Act.put,List.getElem_toArray,List.getElem_cons_zero,List.getElem_cons_succ,List.setIfInBounds_toArray,List.set_cons_zero,List.set_cons_succ]
   refine wpAnyH_take (i:=15) (v:=?v15c) rfl (by kernel_rfl) (by kernel_rfl) (by kernel_rfl) (fun _ _ _ h=>h) (Or.inl ⟨by rfl, ?hy15c⟩) (by assumption) ?r15c
   case hy15c=>(intro w hSw;(try dsimp only at hSw);go_simp;try with_reducible rfl)
   try simp only [Act.put,List.getElem_toArray,List.getElem_cons_zero,List.getElem_cons_succ,List.setIfInBounds_toArray,List.set_cons_zero,List.set_cons_succ]
   refine wpAnyH_take (i:=16) (v:=?v16c) rfl (by kernel_rfl) (by kernel_rfl) (by kernel_rfl) (fun _ _ _ h=>h) (Or.inl ⟨by rfl, ?hy16c⟩) (by assumption) ?r16c
   case hy16c=>(intro w hSw;(try dsimp only at hSw);go_simp;try with_reducible rfl)
   try simp only [Act.put,List.getElem_toArray,List.getElem_cons_zero,List.getElem_cons_succ,List.setIfInBounds_toArray,List.set_cons_zero,List.set_cons_succ]
   refine wpAnyH_take (i:=17) (v:=?v17c) rfl (by kernel_rfl) (by kernel_rfl) (by kernel_rfl) (fun _ _ _ h=>h) (Or.inl ⟨by rfl, ?hy17c⟩) (by assumption) ?r17c
   case hy17c=>(intro w hSw;(try dsimp only at hSw);go_simp;try with_reducible rfl)
   try simp only [Act.put,List.getElem_toArray,List.getElem_cons_zero,List.getElem_cons_succ,List.setIfInBounds_toArray,List.set_cons_zero,List.set_cons_succ]
   refine wpAnyH_take (i:=18) (v:=?v18c) rfl (by kernel_rfl) (by kernel_rfl) (by kernel_rfl) (fun _ _ _ h=>h) (Or.inl ⟨by rfl, ?hy18c⟩) (by assumption) ?r18c
   case hy18c=>(intro w hSw;(try dsimp only at hSw);go_simp;try with_reducible rfl)
   try simp only [Act.put,List.getElem_toArray,List.getElem_cons_zero,List.getElem_cons_succ,List.setIfInBounds_toArray,List.set_cons_zero,List.set_cons_succ]
   refine wpAnyH_take (i:=19) (v:=?v19c) rfl (by kernel_rfl) (by kernel_rfl) (by kernel_rfl) (fun _ _ _ h=>h) (Or.inl ⟨by rfl, ?hy19c⟩) (by assumption) ?r19c
   case hy19c=>(intro w hSw;(try dsimp only at hSw);go_simp;try with_reducible rfl)
   try simp only [Act.put,List.getElem_toArray,List.getElem_cons_zero,List.getElem_cons_succ,List.setIfInBounds_toArray,List.set_cons_zero,List.set_cons_succ]
   refine wpAnyH_take (i:=20) (v:=?v20c) rfl (by kernel_rfl) (by kernel_rfl) (by kernel_rfl) (fun _ _ _ h=>h) (Or.inl ⟨by rfl, ?hy20c⟩) (by assumption) ?r20c
   case hy20c=>(intro w hSw;(try dsimp only at hSw);go_simp;try with_reducible rfl)
   try simp only [Act.put,List.getElem_toArray,List.getElem_cons_zero,List.getElem_cons_succ,List.setIfInBounds_toArray,List.set_cons_zero,List.set_cons_succ]
   refine wpAnyH_take (i:=21) (v:=?v21c) rfl (by kernel_rfl) (by kernel_rfl) (by kernel_rfl) (fun _ _ _ h=>h) (Or.inl ⟨by rfl, ?hy21c⟩) (by assumption) ?r21c
   case hy21c=>(intro w hSw;(try dsimp only at hSw);go_simp;try with_reducible rfl)
   try simp only [Act.put,List.getElem_toArray,List.getElem_cons_zero,List.getElem_cons_succ,List.setIfInBounds_toArray,List.set_cons_zero,List.set_cons_succ]
   refine wpAnyH_take (i:=22) (v:=?v22c) rfl (by kernel_rfl) (by kernel_rfl) (by kernel_rfl) (fun _ _ _ h=>h) (Or.inl ⟨by rfl, ?hy22c⟩) (by assumption) ?r22c
   case hy22c=>(intro w hSw;(try dsimp only at hSw);go_simp;try with_reducible rfl)
   try simp only [Act.put,List.getElem_toArray,List.getElem_cons_zero,List.getElem_cons_succ,List.setIfInBounds_toArray,List.set_cons_zero,List.set_cons_succ]
   refine wpAnyH_take (i:=23) (v:=?v23c) rfl (by kernel_rfl) (by kernel_rfl) (by kernel_rfl) (fun _ _ _ h=>h) (Or.inl ⟨by rfl, ?hy23c⟩) (by assumption) ?r23c
   case hy23c=>(intro w hSw;(try dsimp only at hSw);go_simp;try with_reducible rfl)
   try simp only [Act.put,List.getElem_toArray,List.getElem_cons_zero,List.getElem_cons_succ,List.setIfInBounds_toArray,List.set_cons_zero,List.set_cons_succ]
   refine wpAnyH_take (i:=24) (v:=?v24c) rfl (by kernel_rfl) (by kernel_rfl) (by kernel_rfl) (fun _ _ _ h=>h) (Or.inl ⟨by rfl, ?hy24c⟩) (by assumption) ?r24c
   case hy24c=>(intro w hSw;(try dsimp only at hSw);go_simp;try with_reducible rfl)
   try simp only [Act.put,List.getElem_toArray,List.getElem_cons_zero,List.getElem_cons_succ,List.setIfInBounds_toArray,List.set_cons_zero,List.set_cons_succ]
   refine wpAnyH_take (i:=25) (v:=?v25c) rfl (by kernel_rfl) (by kernel_rfl) (by kernel_rfl) (fun _ _ _ h=>h) (Or.inl ⟨by rfl, ?hy25c⟩) (by assumption) ?r25c
   case hy25c=>(intro w hSw;(try dsimp only at hSw);go_simp;try with_reducible rfl)
   try simp only [Act.put,List.getElem_toArray,List.getElem_cons_zero,List.getElem_cons_succ,List.setIfInBounds_toArray,List.set_cons_zero,List.set_cons_succ]
   refine wpAnyH_ready (rs:=[5,26]) (by kernel_rfl) (by simp) ?_
   refine AllReadyH.cons rfl (fun K hK=>?_) ?_
   ·go_simp
    refine hK.out _ _ (by first|exact hHeld|exact ⟨d0 _,dt _,d9 _⟩) (fun hHeld=>?_)
    clear hK K
    try simp only [Act.put,List.getElem_toArray,List.getElem_cons_zero,List.getElem_cons_succ,List.setIfInBounds_toArray,List.set_cons_zero,List.set_cons_succ]
    refine wpAnyH_ready (rs:=[26]) (by kernel_rfl) (by simp) ?_
    refine AllReadyH.cons rfl (fun K hK=>?_) AllReadyH.nil
    go_simp
    refine hK.out _ _ (by first|exact hHeld|exact ⟨d0 _,dt _,d9 _⟩) (fun hHeld=>?_)
    clear hK K
    try simp only [Act.put,List.getElem_toArray,List.getElem_cons_zero,List.getElem_cons_succ,List.setIfInBounds_toArray,List.set_cons_zero,List.set_cons_succ]
    refine wpAnyH_ready (rs:=[27]) (by kernel_rfl) (by simp) ?_
    refine AllReadyH.cons rfl (fun K hK=>?_) AllReadyH.nil
    (refine step_append_lies _ rfl (.tmp 57) (.tmp 78) 60 rfl w.heap.size 88 i0 _ 4 48 Tryz.underlying60 hi hz0 hz1 hz2 rfl (by decide) v cs.length ((lx.comsOf x.at_ (rest s x.at_) cs).flatMap comV) (by simp [Act.eval,Act.put]) (HR7.out.alloc _) _ 1 1 [.string (s.extract k (k+a)),.string (s.extract (k+a) (k+a+m)),.int .i64 ((k:Int)+a),.int .i64 ((k+a+m:Nat):Int)] (by simp [Act.eval,Act.put]) rfl (World.news_of_block (heap_alloc_new _ _)) (by simp [Value.oneCell']) (by decide) (by unfold maxLen;omega) (by omega) (by simp;omega) _ rfl ?_;intro g cap w1 hown hgrow hat hlt;have HAA:=after_append ((HL7.out.drewN 1).below (below_alloc w7.drew _)) (grown_below (below_alloc w7.drew _) _ |> grown_trans (grown_drewN HG7.out 1)) hB hbw hfw (fun q hq=>(HR7.out.lt q hq).1) hgrow;have HS8:Hid (∀z,LexS (w1.setCell ⟨b,2,none⟩ z) B b f s (x.fresh (k+a+m) z)):=fun z=>HAA.1.set 2 z (x.fresh (k+a+m) z) rfl HAA.1.le;have s0:∀z,(w1.setCell ⟨b,2,none⟩ z).cell? ⟨b,0,none⟩=some (.pointer (some ⟨f,0,none⟩)):=fun z=>(HS8.out z).at.file;have st:∀z,(w1.setCell ⟨b,2,none⟩ z).cell? ⟨f,1,none⟩=some (.string s):=fun z=>(HS8.out z).at.text;have s9:∀z,(w1.setCell ⟨b,2,none⟩ z).cell? ⟨b,9,none⟩=some (.int .i64 ((k+a+m:Nat):Int)):=fun z=>(HS8.out z).at.pos;have HG8:=Lib.hid HAA.2;have HR8:=Lib.hid hown;have e0:w1.cell? ⟨b,0,none⟩=some (.pointer (some ⟨f,0,none⟩)):=HAA.1.at.file;have et:w1.cell? ⟨f,1,none⟩=some (.string s):=HAA.1.at.text;have e9:w1.cell? ⟨b,9,none⟩=some (.int .i64 ((k+a+m:Nat):Int)):=HAA.1.at.pos;have e2:w1.cell? ⟨b,2,none⟩=some v:=HAA.1.cell 2;have g2:w1.frozen? ⟨b,2,none⟩=false:=HAA.1.free 2;clear HAA hown hgrow hat hlt)
    refine hK.out _ _ ⟨e0,et,e9⟩ (fun hHeld=>?_)
    clear hK K
    try simp only [Act.put,List.getElem_toArray,List.getElem_cons_zero,List.getElem_cons_succ,List.setIfInBounds_toArray,List.set_cons_zero,List.set_cons_succ]
    refine wpAnyH_take (i:=28) (v:=?v28cp) rfl (by kernel_rfl) (by kernel_rfl) (by kernel_rfl) (fun _ _ _ h=>h) (Or.inl ⟨by rfl, ?hy28cp⟩) (by assumption) ?r28cp
    case hy28cp=>(intro w hSw;(try dsimp only at hSw);go_simp;try with_reducible rfl)
    try simp only [Act.put,List.getElem_toArray,List.getElem_cons_zero,List.getElem_cons_succ,List.setIfInBounds_toArray,List.set_cons_zero,List.set_cons_succ]
    refine wpAnyH_take (i:=29) (v:=?v29cp) rfl (by kernel_rfl) (by kernel_rfl) (by kernel_rfl) (fun _ _ _ h=>h) (Or.inl ⟨by rfl, ?hy29cp⟩) (by assumption) ?r29cp
    case hy29cp=>(intro w hSw;(try dsimp only at hSw);go_simp;try with_reducible rfl)
    try simp only [Act.put,List.getElem_toArray,List.getElem_cons_zero,List.getElem_cons_succ,List.setIfInBounds_toArray,List.set_cons_zero,List.set_cons_succ]
    refine wpAnyH_take (i:=30) (v:=?v30cp) rfl (by kernel_rfl) (by kernel_rfl) (by kernel_rfl) (fun _ _ _ h=>h) (Or.inl ⟨by rfl, ?hy30cp⟩) (by assumption) ?r30cp
    case hy30cp=>(intro w hSw;(try dsimp only at hSw);go_simp;try with_reducible rfl)
    try simp only [Act.put,List.getElem_toArray,List.getElem_cons_zero,List.getElem_cons_succ,List.setIfInBounds_toArray,List.set_cons_zero,List.set_cons_succ]
    refine wpAnyH_ready (rs:=[31]) (by kernel_rfl) (by simp) ?_
    refine AllReadyH.cons rfl (fun K hK=>?_) AllReadyH.nil
    go_simp
    refine hK.out _ _ ⟨s0 _,st _,s9 _⟩ (fun hHeld=>?_)
    clear hK K
    try simp only [Act.put,List.getElem_toArray,List.getElem_cons_zero,List.getElem_cons_succ,List.setIfInBounds_toArray,List.set_cons_zero,List.set_cons_succ]
    refine wpAnyH_done (by kernel_rfl) ?_ _
    go_wp2_with fail
    go_round
    case rel=>exact ⟨_,k+a+m,_,_,rfl,NI.step HI.out HA.out HO.out hm1 (HS8.out _) (grown_set HG8.out 2 _) (row_kept HR8.out hbw (grown_set (grown_refl _ (some b)) 2 _))⟩
    case measure =>
     have e1:=(HS8.out (.slice (some ⟨g,0,none⟩) (cs.length+1) cap)).place
     have e2:=HL.out.place
     simp only [St.fresh] at e1 e2
     rw [e1,e2]
     omega
   ·refine AllReadyH.cons rfl (fun K hK=>?_) AllReadyH.nil
    go_simp
    refine hK.out _ _ (by first|exact hHeld|exact ⟨d0 _,dt _,d9 _⟩) (fun hHeld=>?_)
    clear hK K
    try simp only [Act.put,List.getElem_toArray,List.getElem_cons_zero,List.getElem_cons_succ,List.setIfInBounds_toArray,List.set_cons_zero,List.set_cons_succ]
    refine wpAnyH_ready (rs:=[5]) (by kernel_rfl) (by simp) ?_
    refine AllReadyH.cons rfl (fun K hK=>?_) AllReadyH.nil
    go_simp
    refine hK.out _ _ (by first|exact hHeld|exact ⟨d0 _,dt _,d9 _⟩) (fun hHeld=>?_)
    clear hK K
    try simp only [Act.put,List.getElem_toArray,List.getElem_cons_zero,List.getElem_cons_succ,List.setIfInBounds_toArray,List.set_cons_zero,List.set_cons_succ]
    refine wpAnyH_ready (rs:=[27]) (by kernel_rfl) (by simp) ?_
    refine AllReadyH.cons rfl (fun K hK=>?_) AllReadyH.nil
    (refine step_append_lies _ rfl (.tmp 57) (.tmp 78) 60 rfl w.heap.size 88 i0 _ 4 48 Tryz.underlying60 hi hz0 hz1 hz2 rfl (by decide) v cs.length ((lx.comsOf x.at_ (rest s x.at_) cs).flatMap comV) (by simp [Act.eval,Act.put]) (HR7.out.alloc _) _ 1 1 [.string (s.extract k (k+a)),.string (s.extract (k+a) (k+a+m)),.int .i64 ((k:Int)+a),.int .i64 ((k+a+m:Nat):Int)] (by simp [Act.eval,Act.put]) rfl (World.news_of_block (heap_alloc_new _ _)) (by simp [Value.oneCell']) (by decide) (by unfold maxLen;omega) (by omega) (by simp;omega) _ rfl ?_;intro g cap w1 hown hgrow hat hlt;have HAA:=after_append ((HL7.out.drewN 1).below (below_alloc w7.drew _)) (grown_below (below_alloc w7.drew _) _ |> grown_trans (grown_drewN HG7.out 1)) hB hbw hfw (fun q hq=>(HR7.out.lt q hq).1) hgrow;have HS8:Hid (∀z,LexS (w1.setCell ⟨b,2,none⟩ z) B b f s (x.fresh (k+a+m) z)):=fun z=>HAA.1.set 2 z (x.fresh (k+a+m) z) rfl HAA.1.le;have s0:∀z,(w1.setCell ⟨b,2,none⟩ z).cell? ⟨b,0,none⟩=some (.pointer (some ⟨f,0,none⟩)):=fun z=>(HS8.out z).at.file;have st:∀z,(w1.setCell ⟨b,2,none⟩ z).cell? ⟨f,1,none⟩=some (.string s):=fun z=>(HS8.out z).at.text;have s9:∀z,(w1.setCell ⟨b,2,none⟩ z).cell? ⟨b,9,none⟩=some (.int .i64 ((k+a+m:Nat):Int)):=fun z=>(HS8.out z).at.pos;have HG8:=Lib.hid HAA.2;have HR8:=Lib.hid hown;have e0:w1.cell? ⟨b,0,none⟩=some (.pointer (some ⟨f,0,none⟩)):=HAA.1.at.file;have et:w1.cell? ⟨f,1,none⟩=some (.string s):=HAA.1.at.text;have e9:w1.cell? ⟨b,9,none⟩=some (.int .i64 ((k+a+m:Nat):Int)):=HAA.1.at.pos;have e2:w1.cell? ⟨b,2,none⟩=some v:=HAA.1.cell 2;have g2:w1.frozen? ⟨b,2,none⟩=false:=HAA.1.free 2;clear HAA hown hgrow hat hlt)
    refine hK.out _ _ ⟨e0,et,e9⟩ (fun hHeld=>?_)
    clear hK K
    try simp only [Act.put,List.getElem_toArray,List.getElem_cons_zero,List.getElem_cons_succ,List.setIfInBounds_toArray,List.set_cons_zero,List.set_cons_succ]
    refine wpAnyH_take (i:=28) (v:=?v28cq) rfl (by kernel_rfl) (by kernel_rfl) (by kernel_rfl) (fun _ _ _ h=>h) (Or.inl ⟨by rfl, ?hy28cq⟩) (by assumption) ?r28cq
    case hy28cq=>(intro w hSw;(try dsimp only at hSw);go_simp;try with_reducible rfl)
    try simp only [Act.put,List.getElem_toArray,List.getElem_cons_zero,List.getElem_cons_succ,List.setIfInBounds_toArray,List.set_cons_zero,List.set_cons_succ]
    refine wpAnyH_take (i:=29) (v:=?v29cq) rfl (by kernel_rfl) (by kernel_rfl) (by kernel_rfl) (fun _ _ _ h=>h) (Or.inl ⟨by rfl, ?hy29cq⟩) (by assumption) ?r29cq
    case hy29cq=>(intro w hSw;(try dsimp only at hSw);go_simp;try with_reducible rfl)
    try simp only [Act.put,List.getElem_toArray,List.getElem_cons_zero,List.getElem_cons_succ,List.setIfInBounds_toArray,List.set_cons_zero,List.set_cons_succ]
    refine wpAnyH_take (i:=30) (v:=?v30cq) rfl (by kernel_rfl) (by kernel_rfl) (by kernel_rfl) (fun _ _ _ h=>h) (Or.inl ⟨by rfl, ?hy30cq⟩) (by assumption) ?r30cq
    case hy30cq=>(intro w hSw;(try dsimp only at hSw);go_simp;try with_reducible rfl)
    try simp only [Act.put,List.getElem_toArray,List.getElem_cons_zero,List.getElem_cons_succ,List.setIfInBounds_toArray,List.set_cons_zero,List.set_cons_succ]
    refine wpAnyH_ready (rs:=[31]) (by kernel_rfl) (by simp) ?_
    refine AllReadyH.cons rfl (fun K hK=>?_) AllReadyH.nil
    go_simp
    refine hK.out _ _ ⟨s0 _,st _,s9 _⟩ (fun hHeld=>?_)
    clear hK K
    try simp only [Act.put,List.getElem_toArray,List.getElem_cons_zero,List.getElem_cons_succ,List.setIfInBounds_toArray,List.set_cons_zero,List.set_cons_succ]
    refine wpAnyH_done (by kernel_rfl) ?_ _
    go_wp2_with fail
    go_round
    case rel=>exact ⟨_,k+a+m,_,_,rfl,NI.step HI.out HA.out HO.out hm1 (HS8.out _) (grown_set HG8.out 2 _) (row_kept HR8.out hbw (grown_set (grown_refl _ (some b)) 2 _))⟩
    case measure =>
     have e1:=(HS8.out (.slice (some ⟨g,0,none⟩) (cs.length+1) cap)).place
     have e2:=HL.out.place
     simp only [St.fresh] at e1 e2
     rw [e1,e2]
     omega
  | open_ =>
   obtain ⟨m,HM⟩:∃m,Hid (s.size=k+a+m):=⟨s.size-(k+a),by show _=_;omega⟩
   have hm1:1≤m∧k+a+m≤s.size:=by
    have h1:=open_size HO.out
    have h2:=HM.out
    rw [rest_length] at h1
    omega
   have HNX:=Lib.hid (next_open HI.out HA.out HO.out HM.out np x.kind.data.toList x.dot)
   rw [HGOT.out] at HNX
   cases np with
   | false =>
    go_wp2_with (first
     | (go_at_call 55;refine HC.out.mono ?_;rintro e w7 hp;obtain ⟨q,rfl,hq⟩:=comm_open_false hp;have HQ:=Lib.hid hq;clear hq))
    have e:G=.fault:=by rw [HNX.out];rfl
    rw [e]
    exact ⟨rfl,Faults.trans (Grown2.of HG6.out) ⟨q,rfl,HQ.out⟩⟩
   | true =>
    have ne:(((k+a+m:Nat):Int)==((k+a:Nat):Int))=false:=by simp;omega
    go_wp2_with (first
     | (go_at_call 55;refine HC.out.mono ?_;rintro e w7 hp;obtain ⟨rfl,hl,hg⟩:=comm_open_true hp;have HR7:=Lib.hid (row_kept HR6.out hbw hg);have HL7:=Lib.hid (show LexS w7 B b f s (x.fresh (k+a+m) v) from lex_at hl HM.out);have HG7:=Lib.hid (grown_trans HG6.out hg);clear hl hg;have c7:w7.cell? ⟨b,9,none⟩=some (.int .i64 ((k+a+m:Nat):Int)):=HL7.out.at.pos))
    have hx7:x.at_≤20000:=by omega
    obtain ⟨i0,hi,hz0,hz1,hz2⟩:=info_parts comInfo
    have c0:w7.cell? ⟨b,0,none⟩=some (.pointer (some ⟨f,0,none⟩)):=HL7.out.at.file
    have ct:w7.cell? ⟨f,1,none⟩=some (.string s):=HL7.out.at.text
    have c2:w7.cell? ⟨b,2,none⟩=some v:=HL7.out.cell 2
    have d2:∀o,(w7.drew.alloc o).cell? ⟨b,2,none⟩=some v:=fun o=>((HL7.out.drewN 1).below (below_alloc w7.drew o)).cell 2
    have d3:∀o,(w7.alloc o).cell? ⟨b,2,none⟩=some v:=fun o=>(HL7.out.below (below_alloc w7 o)).cell 2
    have d0:∀o,(w7.drew.alloc o).cell? ⟨b,0,none⟩=some (.pointer (some ⟨f,0,none⟩)):=fun o=>((HL7.out.drewN 1).below (below_alloc w7.drew o)).at.file
    have dt:∀o,(w7.drew.alloc o).cell? ⟨f,1,none⟩=some (.string s):=fun o=>((HL7.out.drewN 1).below (below_alloc w7.drew o)).at.text
    have d9:∀o,(w7.drew.alloc o).cell? ⟨b,9,none⟩=some (.int .i64 ((k+a+m:Nat):Int)):=fun o=>((HL7.out.drewN 1).below (below_alloc w7.drew o)).at.pos
    have j1:(k:Int)+(a:Int)≤((k+a+m:Nat):Int):=by omega
    have j2:((k+a+m:Nat):Int)≤(s.size:Int):=by omega
    have j3:((k:Int)+(a:Int)).toNat=k+a:=by omega
    have j6:(k:Int)+(a:Int)≤(k:Int)+(a:Int)+(m:Int):=by omega
    have j7:(k:Int)+(a:Int)+(m:Int)≤(s.size:Int):=by omega
    have j8:((k:Int)+(a:Int)+(m:Int)).toNat=k+a+m:=by omega
    have j4:(((k+a+m:Nat):Int)).toNat=k+a+m:=by omega
    have j5:(0:Int)≤(k:Int)+(a:Int):=by omega
    have hcl:cs.length≤20000:=by have:=HI.out.at_;have:=HI.out.len;omega
    have hsz:w.heap.size≤w7.heap.size:=HG7.out.size
    clear i1 i2 i3 i4 i5
    refine wp_region_held_drew (S:=fun W=>W.cell? ⟨b,0,none⟩=some (.pointer (some ⟨f,0,none⟩))∧W.cell? ⟨f,1,none⟩=some (.string s)∧W.cell? ⟨b,9,none⟩=some (.int .i64 ((k+a+m:Nat):Int))) (by kernel_rfl) ⟨c0,ct,c7⟩ (fun hHeld=>?_)
    refine wpAnyH_take (i:=0) (v:=?v0d) rfl (by kernel_rfl) (by kernel_rfl) (by kernel_rfl) (fun _ _ _ h=>h) (Or.inl ⟨by rfl, ?hy0d⟩) (by assumption) ?r0d
    case hy0d=>(intro w hSw;(try dsimp only at hSw);go_simp;try with_reducible rfl)
    try simp only [Act.put,List.getElem_toArray,List.getElem_cons_zero,List.getElem_cons_succ,List.setIfInBounds_toArray,List.set_cons_zero,List.set_cons_succ]
    refine wpAnyH_take (i:=1) (v:=?v1d) rfl (by kernel_rfl) (by kernel_rfl) (by kernel_rfl) (fun _ _ _ h=>h) (Or.inl ⟨by rfl, ?hy1d⟩) (by assumption) ?r1d
    case hy1d=>(intro w hSw;(try dsimp only at hSw);go_simp;try with_reducible rfl)
    try simp only [Act.put,List.getElem_toArray,List.getElem_cons_zero,List.getElem_cons_succ,List.setIfInBounds_toArray,List.set_cons_zero,List.set_cons_succ]
    refine wpAnyH_take (i:=2) (v:=?v2d) rfl (by kernel_rfl) (by kernel_rfl) (by kernel_rfl) (fun _ _ _ h=>h) (Or.inl ⟨by rfl, ?hy2d⟩) (by assumption) ?r2d
    case hy2d=>(intro w hSw;(try dsimp only at hSw);go_simp;try with_reducible rfl)
    try simp only [Act.put,List.getElem_toArray,List.getElem_cons_zero,List.getElem_cons_succ,List.setIfInBounds_toArray,List.set_cons_zero,List.set_cons_succ]
    refine wpAnyH_take (i:=3) (v:=?v3d) rfl (by kernel_rfl) (by kernel_rfl) (by kernel_rfl) (fun _ _ _ h=>h) (Or.inl ⟨by rfl, ?hy3d⟩) (by assumption) ?r3d
    case hy3d=>(intro w hSw;(try dsimp only at hSw);go_simp;try with_reducible rfl)
    try simp only [Act.put,List.getElem_toArray,List.getElem_cons_zero,List.getElem_cons_succ,List.setIfInBounds_toArray,List.set_cons_zero,List.set_cons_succ]
    refine wpAnyH_take (i:=4) (v:=?v4d) rfl (by kernel_rfl) (by kernel_rfl) (by kernel_rfl) (fun _ _ _ h=>h) (Or.inl ⟨by rfl, ?hy4d⟩) (by assumption) ?r4d
    case hy4d=>(intro w hSw;(try dsimp only at hSw);go_simp;try with_reducible rfl)
    try simp only [Act.put,List.getElem_toArray,List.getElem_cons_zero,List.getElem_cons_succ,List.setIfInBounds_toArray,List.set_cons_zero,List.set_cons_succ]
    refine wpAnyH_take (i:=6) (v:=?v6d) rfl (by kernel_rfl) (by kernel_rfl) (by kernel_rfl) (fun _ _ _ h=>h) (Or.inl ⟨by rfl, ?hy6d⟩) (by assumption) ?r6d
    case hy6d=>(intro w hSw;(try dsimp only at hSw);go_simp;try with_reducible rfl)
    try simp only [Act.put,List.getElem_toArray,List.getElem_cons_zero,List.getElem_cons_succ,List.setIfInBounds_toArray,List.set_cons_zero,List.set_cons_succ]
    refine wpAnyH_take (i:=7) (v:=?v7d) rfl (by kernel_rfl) (by kernel_rfl) (by kernel_rfl) (fun _ _ _ h=>h) (Or.inl ⟨by rfl, ?hy7d⟩) (by assumption) ?r7d
    case hy7d=>(intro w hSw;(try dsimp only at hSw);go_simp;try with_reducible rfl)
    try simp only [Act.put,List.getElem_toArray,List.getElem_cons_zero,List.getElem_cons_succ,List.setIfInBounds_toArray,List.set_cons_zero,List.set_cons_succ]
    refine wpAnyH_take (i:=8) (v:=?v8d) rfl (by kernel_rfl) (by kernel_rfl) (by kernel_rfl) (fun _ _ _ h=>h) (Or.inl ⟨by rfl, ?hy8d⟩) (by assumption) ?r8d
    case hy8d=>(intro w hSw;(try dsimp only at hSw);go_simp;try with_reducible rfl)
    try simp only [Act.put,List.getElem_toArray,List.getElem_cons_zero,List.getElem_cons_succ,List.setIfInBounds_toArray,List.set_cons_zero,List.set_cons_succ]
    refine wpAnyH_take (i:=9) (v:=?v9d) rfl (by kernel_rfl) (by kernel_rfl) (by kernel_rfl) (fun _ _ _ h=>h) (Or.inl ⟨by rfl, ?hy9d⟩) (by assumption) ?r9d
    case hy9d=>(intro w hSw;(try dsimp only at hSw);go_simp;try with_reducible rfl)
    try simp only [Act.put,List.getElem_toArray,List.getElem_cons_zero,List.getElem_cons_succ,List.setIfInBounds_toArray,List.set_cons_zero,List.set_cons_succ]
    refine wpAnyH_take (i:=10) (v:=?v10d) rfl (by kernel_rfl) (by kernel_rfl) (by kernel_rfl) (fun _ _ _ h=>h) (Or.inl ⟨by rfl, ?hy10d⟩) (by assumption) ?r10d
    case hy10d=>(intro w hSw;(try dsimp only at hSw);go_simp;try with_reducible rfl)
    try simp only [Act.put,List.getElem_toArray,List.getElem_cons_zero,List.getElem_cons_succ,List.setIfInBounds_toArray,List.set_cons_zero,List.set_cons_succ]
    refine wpAnyH_take (i:=11) (v:=?v11d) rfl (by kernel_rfl) (by kernel_rfl) (by kernel_rfl) (fun _ _ _ h=>h) (Or.inl ⟨by rfl, ?hy11d⟩) (by assumption) ?r11d
    case hy11d=>(intro w hSw;(try dsimp only at hSw);go_simp;try with_reducible rfl)
    try simp only [Act.put,List.getElem_toArray,List.getElem_cons_zero,List.getElem_cons_succ,List.setIfInBounds_toArray,List.set_cons_zero,List.set_cons_succ]
    refine wpAnyH_take (i:=12) (v:=?v12d) rfl (by kernel_rfl) (by kernel_rfl) (by kernel_rfl) (fun _ _ _ h=>h) (Or.inl ⟨by rfl, ?hy12d⟩) (by assumption) ?r12d
    case hy12d=>(intro w hSw;(try dsimp only at hSw);go_simp;try with_reducible rfl)
    try simp only [Act.put,List.getElem_toArray,List.getElem_cons_zero,List.getElem_cons_succ,List.setIfInBounds_toArray,List.set_cons_zero,List.set_cons_succ]
    refine wpAnyH_take (i:=13) (v:=?v13d) rfl (by kernel_rfl) (by kernel_rfl) (by kernel_rfl) (fun _ _ _ h=>h) (Or.inl ⟨by rfl, ?hy13d⟩) (by assumption) ?r13d
    case hy13d=>(intro w hSw;(try dsimp only at hSw);go_simp;try with_reducible rfl)
    try simp only [Act.put,List.getElem_toArray,List.getElem_cons_zero,List.getElem_cons_succ,List.setIfInBounds_toArray,List.set_cons_zero,List.set_cons_succ]
    refine wpAnyH_take (i:=14) (v:=?v14d) rfl (by kernel_rfl) (by kernel_rfl) (by kernel_rfl) (fun _ _ _ h=>h) (Or.inl ⟨by rfl, ?hy14d⟩) (by assumption) ?r14d
    case hy14d=>(intro w hSw;(try dsimp only at hSw);go_simp;try with_reducible rfl)
    try simp only [Act.put,List.getElem_toArray,List.getElem_cons_zero,List.getElem_cons_succ,List.setIfInBounds_toArray,List.set_cons_zero,List.set_cons_succ]
    refine wpAnyH_take (i:=15) (v:=?v15d) rfl (by kernel_rfl) (by kernel_rfl) (by kernel_rfl) (fun _ _ _ h=>h) (Or.inl ⟨by rfl, ?hy15d⟩) (by assumption) ?r15d
    case hy15d=>(intro w hSw;(try dsimp only at hSw);go_simp;try with_reducible rfl)
    try simp only [Act.put,List.getElem_toArray,List.getElem_cons_zero,List.getElem_cons_succ,List.setIfInBounds_toArray,List.set_cons_zero,List.set_cons_succ]
    refine wpAnyH_take (i:=16) (v:=?v16d) rfl (by kernel_rfl) (by kernel_rfl) (by kernel_rfl) (fun _ _ _ h=>h) (Or.inl ⟨by rfl, ?hy16d⟩) (by assumption) ?r16d
    case hy16d=>(intro w hSw;(try dsimp only at hSw);go_simp;try with_reducible rfl)
    try simp only [Act.put,List.getElem_toArray,List.getElem_cons_zero,List.getElem_cons_succ,List.setIfInBounds_toArray,List.set_cons_zero,List.set_cons_succ]
    refine wpAnyH_take (i:=17) (v:=?v17d) rfl (by kernel_rfl) (by kernel_rfl) (by kernel_rfl) (fun _ _ _ h=>h) (Or.inl ⟨by rfl, ?hy17d⟩) (by assumption) ?r17d
    case hy17d=>(intro w hSw;(try dsimp only at hSw);go_simp;try with_reducible rfl)
    try simp only [Act.put,List.getElem_toArray,List.getElem_cons_zero,List.getElem_cons_succ,List.setIfInBounds_toArray,List.set_cons_zero,List.set_cons_succ]
    refine wpAnyH_take (i:=18) (v:=?v18d) rfl (by kernel_rfl) (by kernel_rfl) (by kernel_rfl) (fun _ _ _ h=>h) (Or.inl ⟨by rfl, ?hy18d⟩) (by assumption) ?r18d
    case hy18d=>(intro w hSw;(try dsimp only at hSw);go_simp;try with_reducible rfl)
    try simp only [Act.put,List.getElem_toArray,List.getElem_cons_zero,List.getElem_cons_succ,List.setIfInBounds_toArray,List.set_cons_zero,List.set_cons_succ]
    refine wpAnyH_take (i:=19) (v:=?v19d) rfl (by kernel_rfl) (by kernel_rfl) (by kernel_rfl) (fun _ _ _ h=>h) (Or.inl ⟨by rfl, ?hy19d⟩) (by assumption) ?r19d
    case hy19d=>(intro w hSw;(try dsimp only at hSw);go_simp;try with_reducible rfl)
    try simp only [Act.put,List.getElem_toArray,List.getElem_cons_zero,List.getElem_cons_succ,List.setIfInBounds_toArray,List.set_cons_zero,List.set_cons_succ]
    refine wpAnyH_take (i:=20) (v:=?v20d) rfl (by kernel_rfl) (by kernel_rfl) (by kernel_rfl) (fun _ _ _ h=>h) (Or.inl ⟨by rfl, ?hy20d⟩) (by assumption) ?r20d
    case hy20d=>(intro w hSw;(try dsimp only at hSw);go_simp;try with_reducible rfl)
    try simp only [Act.put,List.getElem_toArray,List.getElem_cons_zero,List.getElem_cons_succ,List.setIfInBounds_toArray,List.set_cons_zero,List.set_cons_succ]
    refine wpAnyH_take (i:=21) (v:=?v21d) rfl (by kernel_rfl) (by kernel_rfl) (by kernel_rfl) (fun _ _ _ h=>h) (Or.inl ⟨by rfl, ?hy21d⟩) (by assumption) ?r21d
    case hy21d=>(intro w hSw;(try dsimp only at hSw);go_simp;try with_reducible rfl)
    try simp only [Act.put,List.getElem_toArray,List.getElem_cons_zero,List.getElem_cons_succ,List.setIfInBounds_toArray,List.set_cons_zero,List.set_cons_succ]
    refine wpAnyH_take (i:=22) (v:=?v22d) rfl (by kernel_rfl) (by kernel_rfl) (by kernel_rfl) (fun _ _ _ h=>h) (Or.inl ⟨by rfl, ?hy22d⟩) (by assumption) ?r22d
    case hy22d=>(intro w hSw;(try dsimp only at hSw);go_simp;try with_reducible rfl)
    try simp only [Act.put,List.getElem_toArray,List.getElem_cons_zero,List.getElem_cons_succ,List.setIfInBounds_toArray,List.set_cons_zero,List.set_cons_succ]
    refine wpAnyH_take (i:=23) (v:=?v23d) rfl (by kernel_rfl) (by kernel_rfl) (by kernel_rfl) (fun _ _ _ h=>h) (Or.inl ⟨by rfl, ?hy23d⟩) (by assumption) ?r23d
    case hy23d=>(intro w hSw;(try dsimp only at hSw);go_simp;try with_reducible rfl)
    try simp only [Act.put,List.getElem_toArray,List.getElem_cons_zero,List.getElem_cons_succ,List.setIfInBounds_toArray,List.set_cons_zero,List.set_cons_succ]
    refine wpAnyH_take (i:=24) (v:=?v24d) rfl (by kernel_rfl) (by kernel_rfl) (by kernel_rfl) (fun _ _ _ h=>h) (Or.inl ⟨by rfl, ?hy24d⟩) (by assumption) ?r24d
    case hy24d=>(intro w hSw;(try dsimp only at hSw);go_simp;try with_reducible rfl)
    try simp only [Act.put,List.getElem_toArray,List.getElem_cons_zero,List.getElem_cons_succ,List.setIfInBounds_toArray,List.set_cons_zero,List.set_cons_succ]
    refine wpAnyH_take (i:=25) (v:=?v25d) rfl (by kernel_rfl) (by kernel_rfl) (by kernel_rfl) (fun _ _ _ h=>h) (Or.inl ⟨by rfl, ?hy25d⟩) (by assumption) ?r25d
    case hy25d=>(intro w hSw;(try dsimp only at hSw);go_simp;try with_reducible rfl)
    try simp only [Act.put,List.getElem_toArray,List.getElem_cons_zero,List.getElem_cons_succ,List.setIfInBounds_toArray,List.set_cons_zero,List.set_cons_succ]
    refine wpAnyH_ready (rs:=[5,26]) (by kernel_rfl) (by simp) ?_
    refine AllReadyH.cons rfl (fun K hK=>?_) ?_
    ·go_simp
     refine hK.out _ _ (by first|exact hHeld|exact ⟨d0 _,dt _,d9 _⟩) (fun hHeld=>?_)
     clear hK K
     try simp only [Act.put,List.getElem_toArray,List.getElem_cons_zero,List.getElem_cons_succ,List.setIfInBounds_toArray,List.set_cons_zero,List.set_cons_succ]
     refine wpAnyH_ready (rs:=[26]) (by kernel_rfl) (by simp) ?_
     refine AllReadyH.cons rfl (fun K hK=>?_) AllReadyH.nil
     go_simp
     refine hK.out _ _ (by first|exact hHeld|exact ⟨d0 _,dt _,d9 _⟩) (fun hHeld=>?_)
     clear hK K
     try simp only [Act.put,List.getElem_toArray,List.getElem_cons_zero,List.getElem_cons_succ,List.setIfInBounds_toArray,List.set_cons_zero,List.set_cons_succ]
     refine wpAnyH_ready (rs:=[27]) (by kernel_rfl) (by simp) ?_
     refine AllReadyH.cons rfl (fun K hK=>?_) AllReadyH.nil
     (refine step_append_lies _ rfl (.tmp 57) (.tmp 78) 60 rfl w.heap.size 88 i0 _ 4 48 Tryz.underlying60 hi hz0 hz1 hz2 rfl (by decide) v cs.length ((lx.comsOf x.at_ (rest s x.at_) cs).flatMap comV) (by simp [Act.eval,Act.put]) (HR7.out.alloc _) _ 1 1 [.string (s.extract k (k+a)),.string (s.extract (k+a) (k+a+m)),.int .i64 ((k:Int)+a),.int .i64 ((k+a+m:Nat):Int)] (by simp [Act.eval,Act.put]) rfl (World.news_of_block (heap_alloc_new _ _)) (by simp [Value.oneCell']) (by decide) (by unfold maxLen;omega) (by omega) (by simp;omega) _ rfl ?_;intro g cap w1 hown hgrow hat hlt;have HAA:=after_append ((HL7.out.drewN 1).below (below_alloc w7.drew _)) (grown_below (below_alloc w7.drew _) _ |> grown_trans (grown_drewN HG7.out 1)) hB hbw hfw (fun q hq=>(HR7.out.lt q hq).1) hgrow;have HS8:Hid (∀z,LexS (w1.setCell ⟨b,2,none⟩ z) B b f s (x.fresh (k+a+m) z)):=fun z=>HAA.1.set 2 z (x.fresh (k+a+m) z) rfl HAA.1.le;have s0:∀z,(w1.setCell ⟨b,2,none⟩ z).cell? ⟨b,0,none⟩=some (.pointer (some ⟨f,0,none⟩)):=fun z=>(HS8.out z).at.file;have st:∀z,(w1.setCell ⟨b,2,none⟩ z).cell? ⟨f,1,none⟩=some (.string s):=fun z=>(HS8.out z).at.text;have s9:∀z,(w1.setCell ⟨b,2,none⟩ z).cell? ⟨b,9,none⟩=some (.int .i64 ((k+a+m:Nat):Int)):=fun z=>(HS8.out z).at.pos;have HG8:=Lib.hid HAA.2;have HR8:=Lib.hid hown;have e0:w1.cell? ⟨b,0,none⟩=some (.pointer (some ⟨f,0,none⟩)):=HAA.1.at.file;have et:w1.cell? ⟨f,1,none⟩=some (.string s):=HAA.1.at.text;have e9:w1.cell? ⟨b,9,none⟩=some (.int .i64 ((k+a+m:Nat):Int)):=HAA.1.at.pos;have e2:w1.cell? ⟨b,2,none⟩=some v:=HAA.1.cell 2;have g2:w1.frozen? ⟨b,2,none⟩=false:=HAA.1.free 2;clear HAA hown hgrow hat hlt)
     refine hK.out _ _ ⟨e0,et,e9⟩ (fun hHeld=>?_)
     clear hK K
     try simp only [Act.put,List.getElem_toArray,List.getElem_cons_zero,List.getElem_cons_succ,List.setIfInBounds_toArray,List.set_cons_zero,List.set_cons_succ]
     refine wpAnyH_take (i:=28) (v:=?v28dp) rfl (by kernel_rfl) (by kernel_rfl) (by kernel_rfl) (fun _ _ _ h=>h) (Or.inl ⟨by rfl, ?hy28dp⟩) (by assumption) ?r28dp
     case hy28dp=>(intro w hSw;(try dsimp only at hSw);go_simp;try with_reducible rfl)
     try simp only [Act.put,List.getElem_toArray,List.getElem_cons_zero,List.getElem_cons_succ,List.setIfInBounds_toArray,List.set_cons_zero,List.set_cons_succ]
     refine wpAnyH_take (i:=29) (v:=?v29dp) rfl (by kernel_rfl) (by kernel_rfl) (by kernel_rfl) (fun _ _ _ h=>h) (Or.inl ⟨by rfl, ?hy29dp⟩) (by assumption) ?r29dp
     case hy29dp=>(intro w hSw;(try dsimp only at hSw);go_simp;try with_reducible rfl)
     try simp only [Act.put,List.getElem_toArray,List.getElem_cons_zero,List.getElem_cons_succ,List.setIfInBounds_toArray,List.set_cons_zero,List.set_cons_succ]
     refine wpAnyH_take (i:=30) (v:=?v30dp) rfl (by kernel_rfl) (by kernel_rfl) (by kernel_rfl) (fun _ _ _ h=>h) (Or.inl ⟨by rfl, ?hy30dp⟩) (by assumption) ?r30dp
     case hy30dp=>(intro w hSw;(try dsimp only at hSw);go_simp;try with_reducible rfl)
     try simp only [Act.put,List.getElem_toArray,List.getElem_cons_zero,List.getElem_cons_succ,List.setIfInBounds_toArray,List.set_cons_zero,List.set_cons_succ]
     refine wpAnyH_ready (rs:=[31]) (by kernel_rfl) (by simp) ?_
     refine AllReadyH.cons rfl (fun K hK=>?_) AllReadyH.nil
     go_simp
     refine hK.out _ _ ⟨s0 _,st _,s9 _⟩ (fun hHeld=>?_)
     clear hK K
     try simp only [Act.put,List.getElem_toArray,List.getElem_cons_zero,List.getElem_cons_succ,List.setIfInBounds_toArray,List.set_cons_zero,List.set_cons_succ]
     refine wpAnyH_done (by kernel_rfl) ?_ _
     have HL9:=Lib.hid (HS8.out (.slice (some ⟨g,0,none⟩) (cs.length+1) cap))
     have HG9:=Lib.hid (grown_set HG8.out 2 (.slice (some ⟨g,0,none⟩) (cs.length+1) cap))
     have HR9:=Lib.hid (row_kept HR8.out hbw (grown_set (grown_refl w1 (some b)) 2 (.slice (some ⟨g,0,none⟩) (cs.length+1) cap)))
     clear HS8 HG8 HR8 e0 et e9 e2 g2 s0 st s9
     generalize w1.setCell ⟨b,2,none⟩ (.slice (some ⟨g,0,none⟩) (cs.length+1) cap)=w9 at HL9 HG9 HR9 ⊢
     have u1:w9.cell? ⟨b,1,none⟩=some (.string ⟨#[]⟩):=HL9.out.cell 1
     have u7:w9.cell? ⟨b,7,none⟩=some (.int .i64 (0:Int)):=HL9.out.cell 7
     have u8:w9.cell? ⟨b,8,none⟩=some (.int .i64 (0:Int)):=HL9.out.cell 8
     have u9:w9.cell? ⟨b,9,none⟩=some (.int .i64 ((k+a+m:Nat):Int)):=HL9.out.cell 9
     have v1:∀i,w9.frozen? ⟨b,i,none⟩=false:=fun i=>HL9.out.free i
     go_wp2_with fail
     (first|go_end0|go_ret)
     exact open_post HI.out HM.out (HNX.out.trans (if_pos (by simp))) HL9.out HG9.out HR9.out hbw
    ·refine AllReadyH.cons rfl (fun K hK=>?_) AllReadyH.nil
     go_simp
     refine hK.out _ _ (by first|exact hHeld|exact ⟨d0 _,dt _,d9 _⟩) (fun hHeld=>?_)
     clear hK K
     try simp only [Act.put,List.getElem_toArray,List.getElem_cons_zero,List.getElem_cons_succ,List.setIfInBounds_toArray,List.set_cons_zero,List.set_cons_succ]
     refine wpAnyH_ready (rs:=[5]) (by kernel_rfl) (by simp) ?_
     refine AllReadyH.cons rfl (fun K hK=>?_) AllReadyH.nil
     go_simp
     refine hK.out _ _ (by first|exact hHeld|exact ⟨d0 _,dt _,d9 _⟩) (fun hHeld=>?_)
     clear hK K
     try simp only [Act.put,List.getElem_toArray,List.getElem_cons_zero,List.getElem_cons_succ,List.setIfInBounds_toArray,List.set_cons_zero,List.set_cons_succ]
     refine wpAnyH_ready (rs:=[27]) (by kernel_rfl) (by simp) ?_
     refine AllReadyH.cons rfl (fun K hK=>?_) AllReadyH.nil
     (refine step_append_lies _ rfl (.tmp 57) (.tmp 78) 60 rfl w.heap.size 88 i0 _ 4 48 Tryz.underlying60 hi hz0 hz1 hz2 rfl (by decide) v cs.length ((lx.comsOf x.at_ (rest s x.at_) cs).flatMap comV) (by simp [Act.eval,Act.put]) (HR7.out.alloc _) _ 1 1 [.string (s.extract k (k+a)),.string (s.extract (k+a) (k+a+m)),.int .i64 ((k:Int)+a),.int .i64 ((k+a+m:Nat):Int)] (by simp [Act.eval,Act.put]) rfl (World.news_of_block (heap_alloc_new _ _)) (by simp [Value.oneCell']) (by decide) (by unfold maxLen;omega) (by omega) (by simp;omega) _ rfl ?_;intro g cap w1 hown hgrow hat hlt;have HAA:=after_append ((HL7.out.drewN 1).below (below_alloc w7.drew _)) (grown_below (below_alloc w7.drew _) _ |> grown_trans (grown_drewN HG7.out 1)) hB hbw hfw (fun q hq=>(HR7.out.lt q hq).1) hgrow;have HS8:Hid (∀z,LexS (w1.setCell ⟨b,2,none⟩ z) B b f s (x.fresh (k+a+m) z)):=fun z=>HAA.1.set 2 z (x.fresh (k+a+m) z) rfl HAA.1.le;have s0:∀z,(w1.setCell ⟨b,2,none⟩ z).cell? ⟨b,0,none⟩=some (.pointer (some ⟨f,0,none⟩)):=fun z=>(HS8.out z).at.file;have st:∀z,(w1.setCell ⟨b,2,none⟩ z).cell? ⟨f,1,none⟩=some (.string s):=fun z=>(HS8.out z).at.text;have s9:∀z,(w1.setCell ⟨b,2,none⟩ z).cell? ⟨b,9,none⟩=some (.int .i64 ((k+a+m:Nat):Int)):=fun z=>(HS8.out z).at.pos;have HG8:=Lib.hid HAA.2;have HR8:=Lib.hid hown;have e0:w1.cell? ⟨b,0,none⟩=some (.pointer (some ⟨f,0,none⟩)):=HAA.1.at.file;have et:w1.cell? ⟨f,1,none⟩=some (.string s):=HAA.1.at.text;have e9:w1.cell? ⟨b,9,none⟩=some (.int .i64 ((k+a+m:Nat):Int)):=HAA.1.at.pos;have e2:w1.cell? ⟨b,2,none⟩=some v:=HAA.1.cell 2;have g2:w1.frozen? ⟨b,2,none⟩=false:=HAA.1.free 2;clear HAA hown hgrow hat hlt)
     refine hK.out _ _ ⟨e0,et,e9⟩ (fun hHeld=>?_)
     clear hK K
     try simp only [Act.put,List.getElem_toArray,List.getElem_cons_zero,List.getElem_cons_succ,List.setIfInBounds_toArray,List.set_cons_zero,List.set_cons_succ]
     refine wpAnyH_take (i:=28) (v:=?v28dq) rfl (by kernel_rfl) (by kernel_rfl) (by kernel_rfl) (fun _ _ _ h=>h) (Or.inl ⟨by rfl, ?hy28dq⟩) (by assumption) ?r28dq
     case hy28dq=>(intro w hSw;(try dsimp only at hSw);go_simp;try with_reducible rfl)
     try simp only [Act.put,List.getElem_toArray,List.getElem_cons_zero,List.getElem_cons_succ,List.setIfInBounds_toArray,List.set_cons_zero,List.set_cons_succ]
     refine wpAnyH_take (i:=29) (v:=?v29dq) rfl (by kernel_rfl) (by kernel_rfl) (by kernel_rfl) (fun _ _ _ h=>h) (Or.inl ⟨by rfl, ?hy29dq⟩) (by assumption) ?r29dq
     case hy29dq=>(intro w hSw;(try dsimp only at hSw);go_simp;try with_reducible rfl)
     try simp only [Act.put,List.getElem_toArray,List.getElem_cons_zero,List.getElem_cons_succ,List.setIfInBounds_toArray,List.set_cons_zero,List.set_cons_succ]
     refine wpAnyH_take (i:=30) (v:=?v30dq) rfl (by kernel_rfl) (by kernel_rfl) (by kernel_rfl) (fun _ _ _ h=>h) (Or.inl ⟨by rfl, ?hy30dq⟩) (by assumption) ?r30dq
     case hy30dq=>(intro w hSw;(try dsimp only at hSw);go_simp;try with_reducible rfl)
     try simp only [Act.put,List.getElem_toArray,List.getElem_cons_zero,List.getElem_cons_succ,List.setIfInBounds_toArray,List.set_cons_zero,List.set_cons_succ]
     refine wpAnyH_ready (rs:=[31]) (by kernel_rfl) (by simp) ?_
     refine AllReadyH.cons rfl (fun K hK=>?_) AllReadyH.nil
     go_simp
     refine hK.out _ _ ⟨s0 _,st _,s9 _⟩ (fun hHeld=>?_)
     clear hK K
     try simp only [Act.put,List.getElem_toArray,List.getElem_cons_zero,List.getElem_cons_succ,List.setIfInBounds_toArray,List.set_cons_zero,List.set_cons_succ]
     refine wpAnyH_done (by kernel_rfl) ?_ _
     have HL9:=Lib.hid (HS8.out (.slice (some ⟨g,0,none⟩) (cs.length+1) cap))
     have HG9:=Lib.hid (grown_set HG8.out 2 (.slice (some ⟨g,0,none⟩) (cs.length+1) cap))
     have HR9:=Lib.hid (row_kept HR8.out hbw (grown_set (grown_refl w1 (some b)) 2 (.slice (some ⟨g,0,none⟩) (cs.length+1) cap)))
     clear HS8 HG8 HR8 e0 et e9 e2 g2 s0 st s9
     generalize w1.setCell ⟨b,2,none⟩ (.slice (some ⟨g,0,none⟩) (cs.length+1) cap)=w9 at HL9 HG9 HR9 ⊢
     have u1:w9.cell? ⟨b,1,none⟩=some (.string ⟨#[]⟩):=HL9.out.cell 1
     have u7:w9.cell? ⟨b,7,none⟩=some (.int .i64 (0:Int)):=HL9.out.cell 7
     have u8:w9.cell? ⟨b,8,none⟩=some (.int .i64 (0:Int)):=HL9.out.cell 8
     have u9:w9.cell? ⟨b,9,none⟩=some (.int .i64 ((k+a+m:Nat):Int)):=HL9.out.cell 9
     have v1:∀i,w9.frozen? ⟨b,i,none⟩=false:=fun i=>HL9.out.free i
     go_wp2_with fail
     (first|go_end0|go_ret)
     exact open_post HI.out HM.out (HNX.out.trans (if_pos (by simp))) HL9.out HG9.out HR9.out hbw
end Go.Proofs.YtaamolahbkgofaaGreatDoor.lex
