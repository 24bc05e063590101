/-
  impl.Split and the laws' split: the statements of a text as plain data. The law laws.FnSplitOnce, walked: each statement of a text is split to itself. The law laws.FnSplitOnce returns true at every text: a statement has no semicolon of its own: each statement that a text is split into is split to itself. Conditions: of each, in its statement.
-/
import Derived.Test.YtaamolahbkgofaaGreatDoorK41
import Derived.Test.YtaamolahbkgofaaGreatDoorK32
import Derived.Test.YtaamolahbkgofaaGreatDoorTie
import Derived.Test.YtaamolahbkgofaaGreatDoorCards
import Derived.SevenTiedAt
set_option linter.unusedVariables false
set_option linter.unusedSimpArgs false
namespace Go.Proofs.YtaamolahbkgofaaGreatDoor.lex
open Go.RowKit mem lines plain
theorem below_row {w W W':World} {n base e size m:Nat} {v:Value} {xs:List Value} (h:Below n w W) (hr:W.ownsRow base e size v m xs) (hg:W.grownBy W' v.ownBlock) (hb:n≤base) (hn:n≤W.heap.size):Below n w W' :=
 ⟨hg.os.trans h.os,hg.tape.trans h.tape,hg.output.trans h.output,Nat.le_trans h.size hg.size,fun i hi=>(hg.block i (by omega) (fun e=>by have:=(hr.lt i e.symm).1;omega)).trans (h.block i hi)⟩
/-- A statement's three cells. -/
def rawV (s:ByteArray) (x:Nat × Nat):List Value:=[.int .i64 (x.1:Int),.int .i64 (x.2:Int),.string (s.extract x.1 x.2)]
/-- The list of statements as impl.Split hands it back. -/
def RawsR (W:World) (base:Nat) (v:Value) (s:ByteArray) (xs:List (Nat × Nat)):Prop:=W.ownsRow base 50 3 v xs.length (xs.flatMap (rawV s))
def SplitOut (s:ByteArray) (w:World) (e:Ending) (w':World):Prop :=
 match (lx.toks false s.data.toList).2 with
 | .ok=>∃v,e=.returned (.tuple #[v,.bool true])∧(∃base,RawsR w' base v s (lx.raws (lx.toks false s.data.toList).1))∧Below w.heap.size w w'
 | .fault=>e=.returned (.tuple #[.slice none 0 0,.bool false])∧Below w.heap.size w w'
 | .crash=>True
theorem rInfo:(Tryz.prog.info? 50).map (fun i=>(i.zero,i.size,i.bytes))=some (some (.agg #[.int .i64 0,.int .i64 0,.string ⟨#[]⟩]),3,32):=by kernel_rfl
set_option maxHeartbeats 4000000 in
set_option maxRecDepth 100000 in
theorem split_bad {w:World} {s:ByteArray} (hs:s.size≤20000) (hT:Lib0 w) (hf:(lx.toks false s.data.toList).2=.fault) :
  Calls Tryz.prog 26 #[.string s] w (SplitOut s w):=by
 have HR:=Lib.hid (rawStatements_any hs hT (by rw [hf];simp))
 have HF:=Lib.hid hf
 clear hT hf
 go_enter Tryz.func26,Tryz.ntmps26
 go_wp2_with (go_at_call 39;refine HR.out.mono ?_;intro e w1 hp;unfold SplitP at hp;rw [HF.out] at hp;obtain ⟨m,rfl,hb⟩:=hp;have HB:=Lib.hid hb;clear hb)
 refine bodyPost_ret (v:=.tuple #[.slice none 0 0,.bool false]) (by simp [results,Tryz.results26,go_sem]) rfl ?_
 unfold SplitOut
 rw [HF.out]
 exact ⟨rfl,HB.out⟩
set_option maxHeartbeats 4000000 in
set_option maxRecDepth 100000 in
theorem split_ok {w:World} {s:ByteArray} (hs:s.size≤20000) (hT:Lib0 w) (hf:(lx.toks false s.data.toList).2=.ok) :
  Calls Tryz.prog 26 #[.string s] w (SplitOut s w):=by
 have HR:=Lib.hid (rawStatements_any hs hT (by rw [hf];simp))
 have HF:=Lib.hid hf
 clear hT hf
 go_enter Tryz.func26,Tryz.ntmps26
 go_wp2_with (go_at_call 39;refine HR.out.mono ?_;intro e w1 hp;unfold SplitP at hp;rw [HF.out] at hp;obtain ⟨v,it,rfl,⟨g,cap,rfl,hg,hv⟩,hm,hb⟩:=hp;have HB:=Lib.hid hb;have HV:=Lib.hid hv;have HM:=Lib.hid hm;clear hb hv hm;have hn1:it.length≤20002:=(by have h1:=congrArg List.length HM.out;rw [List.length_map] at h1;have h2:=lx.raws_length (lx.toks false s.data.toList).1;have h3:=lx.toks_length false s.data.toList;simp at h3;omega);obtain ⟨n,hn⟩:∃n,n=it.length:=⟨_,rfl⟩;rw [←hn] at hn1;rw [←hn];have HNN:=Lib.hid hn;clear hn)
 go_loopw [6,18] (fun ov iv wr=>∃k:Nat,k≤n∧iv=.int .i64 (k:Int)∧Hid (Below w1.heap.size w1 wr)∧Hid (wr.ownsRow w1.heap.size 50 3 ov k ((it.take k).flatMap fun r=>rawV s r.at))) (fun _ iv _=>n-(intOf iv).toNat)
 case atStart=>exact ⟨0,Nat.zero_le _,rfl,Below.refl _ _,World.ownsRow_nil _ _ _ _⟩
 case round =>
  rename World=>wo
  obtain ⟨k,hk,rfl,HBo,HRo⟩:=hrel
  by_cases hlt:k<n
  ·have hz:(k:Int)<(n:Int):=by omega
   have hkl:k<it.length:=by have:=HNN.out;omega
   obtain ⟨hc,hr⟩:=HV.out k hkl
   obtain ⟨p,hp⟩:∃p,p=it[k].p:=⟨_,rfl⟩
   obtain ⟨x,hx⟩:∃x,x=it[k].x:=⟨_,rfl⟩
   obtain ⟨y,hy⟩:∃y,y=it[k].y:=⟨_,rfl⟩
   rw [RawAt] at hr
   rw [←hp,←hx,←hy] at hr
   rw [←hp] at hc
   have HT1:Hid (((it.take k).flatMap fun r=>rawV s r.at)++rawV s (x,y)=(it.take (k+1)).flatMap fun r=>rawV s r.at):=by
    show _=_
    rw [List.take_succ_eq_append_getElem hkl,List.flatMap_append,hx,hy]
    simp [RI.at]
   clear hp hx hy
   have hpl:p<w1.heap.size:=lt_of_heap hr
   have q:=(HBo.out.cell (p:=⟨g,k,none⟩) hg).trans hc
   have hro:=(HBo.out.block p hpl).trans hr
   have r0:wo.cell? ⟨p,0,none⟩=some (.int .i64 (x:Int)):=cells_of_heap hro 0
   have r1:wo.cell? ⟨p,1,none⟩=some (.int .i64 (y:Int)):=cells_of_heap hro 1
   have r2:wo.cell? ⟨p,2,none⟩=some (.string (s.extract x y)):=cells_of_heap hro 2
   have HS:Hid (∀W:World,W.heap[p]?=wo.heap[p]?→W.cell? ⟨p,0,none⟩=some (.int .i64 (x:Int))∧W.cell? ⟨p,1,none⟩=some (.int .i64 (y:Int))∧W.cell? ⟨p,2,none⟩=some (.string (s.extract x y))):=fun W hW =>
    ⟨cells_of_heap (hW.trans hro) 0,cells_of_heap (hW.trans hro) 1,cells_of_heap (hW.trans hro) 2⟩
   have hpo:p<wo.heap.size:=lt_of_heap hro
   have HA:Hid (∀oa,({ wo with drawn:=wo.drawn+1 }.alloc oa).heap[wo.heap.size]?=some oa):=fun oa=>heap_alloc_new { wo with drawn:=wo.drawn+1 } oa
   have HA0:Hid (∀oa,({ wo with drawn:=wo.drawn+1 }.alloc oa).heap[p]?=wo.heap[p]?):=fun oa=>heap_alloc_old { wo with drawn:=wo.drawn+1 } oa hpo
   have HAB:Hid (∀oa,Below wo.heap.size wo ({ wo with drawn:=wo.drawn+1 }.alloc oa)):=fun oa=>by
    have h0:Below wo.heap.size wo { wo with drawn:=wo.drawn+1 }:=(Below.refl _ wo).drew
    exact h0.alloc (Nat.le_refl _) oa
   have hbo:=HBo.out.size
   have HG:=Lib.hid hg
   obtain ⟨i0,hi0,hz0,hz1,hz2⟩:=info_parts rInfo
   have HPL:=Lib.hid hpl
   clear hro hr hc hpl
   go_wp2_with fail
   go_region_held3 (fun W=>W.cell? ⟨p,0,none⟩=some (.int .i64 (x:Int))∧W.cell? ⟨p,1,none⟩=some (.int .i64 (y:Int))∧W.cell? ⟨p,2,none⟩=some (.string (s.extract x y)))
    (first|assumption|exact HS.out _ rfl|exact HS.out _ (HA0.out _)|exact HS6.out)
    (first|(refine step_append_lies _ rfl (.tmp 22) (.tmp 36) 46 rfl w1.heap.size 50 i0 _ 3 32 Tryz.underlying46 hi0 hz0 hz1 hz2 rfl (by decide) u6 k ((it.take k).flatMap fun r=>rawV s r.at) (by simp [Act.eval,Act.put]) (row_below HRo.out (HAB.out _)) ⟨wo.heap.size,0,none⟩ 1 1 (rawV s (x,y)) (by simp [Act.eval,Act.put]) rfl (World.news_of_block (HA.out _)) (by simp [rawV,Value.oneCell']) (by decide) (by unfold maxLen;omega) (by omega) (by simp;omega) _ rfl ?_;intro g2 cap2 w6 hown hgrow hat hlt2;have HS6:=Lib.hid (HS.out w6 ((hgrow.block p (by simp;omega) (fun e=>by have:=(HRo.out.lt _ e.symm).1;have:=HPL.out;omega)).trans (HA0.out _)));have H6:=Lib.hid hown;have HB6:=Lib.hid (below_row (HBo.out.trans ((HAB.out _).mono hbo)) (row_below HRo.out (HAB.out _)) hgrow (Nat.le_refl _) (Nat.le_trans hbo (HAB.out _).size));clear hown hgrow hat hlt2))
   go_wp2_with fail
   exact ⟨⟨k+1,by omega,by go_num,HB6.out,by rw [←HT1.out];exact H6.out⟩,by simp [intOf];omega⟩
  ·have hz:¬(k:Int)<(n:Int):=by omega
   have hkn:k=it.length:=by have:=HNN.out;omega
   go_wp2_with fail
   refine bodyPost_ret (v:=.tuple #[u6,.bool true]) (by simp [results,Tryz.results26,go_sem]) rfl ?_
   unfold SplitOut
   rw [HF.out]
   refine ⟨_,rfl,⟨w1.heap.size, ?_⟩,HB.out.trans (HBo.out.mono HB.out.size)⟩
   have h1:=HRo.out
   rw [hkn,List.take_length] at h1
   unfold RawsR
   rw [←HM.out,List.length_map,List.flatMap_map]
   exact h1
theorem split_any {w:World} {s:ByteArray} (hs:s.size≤20000) (hT:Lib0 w) (hcr:(lx.toks false s.data.toList).2≠.crash) :
  Calls Tryz.prog 26 #[.string s] w (SplitOut s w):=by
 cases hf:(lx.toks false s.data.toList).2 with
 | crash=>exact absurd hf hcr
 | fault=>exact split_bad hs hT hf
 | ok=>exact split_ok hs hT hf
set_option maxHeartbeats 1000000 in
set_option maxRecDepth 100000 in
/-- The laws' split: of a text that is not brittle. -/
theorem lawSplit_any {w:World} {s:ByteArray} (hs:s.size≤20000) (hT:Lib0 w) (hb:brittleB s=false) :
  Calls Tryz.prog 25 #[.string s] w (SplitOut s w):=by
 have hcr:=(lx.toks_fine false (sound_of hb)).1
 have HS:=Lib.hid (split_any hs hT hcr)
 clear hT
 cases hf:(lx.toks false s.data.toList).2 with
 | crash=>exact absurd hf hcr
 | fault =>
  have HF:=Lib.hid hf
  clear hf hcr
  go_enter Tryz.func25,Tryz.ntmps25
  go_wp2_with (first|(go_at_call 31;refine (padded_any s _ (by omega) hb).mono ?_;rintro e w' ⟨rfl,rfl⟩)|(go_at_call 26;refine HS.out.mono ?_;intro e w1 hp;unfold SplitOut at hp;rw [HF.out] at hp;obtain ⟨rfl,hb2⟩:=hp;have HB:=Lib.hid hb2;clear hb2))
  refine bodyPost_ret (v:=.tuple #[.slice none 0 0,.bool false]) (by simp [results,Tryz.results25,go_sem]) rfl ?_
  unfold SplitOut
  rw [HF.out]
  exact ⟨rfl,HB.out⟩
 | ok =>
  have HF:=Lib.hid hf
  clear hf hcr
  go_enter Tryz.func25,Tryz.ntmps25
  go_wp2_with (first|(go_at_call 31;refine (padded_any s _ (by omega) hb).mono ?_;rintro e w' ⟨rfl,rfl⟩)|(go_at_call 26;refine HS.out.mono ?_;intro e w1 hp;unfold SplitOut at hp;rw [HF.out] at hp;obtain ⟨v,rfl,hv,hb2⟩:=hp;have HB:=Lib.hid hb2;have HV:=Lib.hid hv;clear hb2 hv))
  refine bodyPost_ret (v:=.tuple #[v,.bool true]) (by simp [results,Tryz.results25,go_sem]) rfl ?_
  unfold SplitOut
  rw [HF.out]
  exact ⟨v,rfl,HV.out,HB.out⟩
end Go.Proofs.YtaamolahbkgofaaGreatDoor.lex
set_option linter.unusedVariables false
set_option linter.unusedSimpArgs false
namespace Go.Proofs.YtaamolahbkgofaaGreatDoor.lex
open Go.RowKit mem lines plain
theorem RawsR.view {W:World} {base:Nat} {v:Value} {s:ByteArray} {xs:List (Nat × Nat)} (h:RawsR W base v s xs) (h0:0<xs.length) :
  ∃g cap,v=.slice (some ⟨g,0,none⟩) xs.length cap∧g<W.heap.size∧∀i (hi:i<xs.length),W.cell? ⟨g,i*3,none⟩=some (.int .i64 (xs[i].1:Int))∧W.cell? ⟨g,i*3+1,none⟩=some (.int .i64 (xs[i].2:Int))∧W.cell? ⟨g,i*3+2,none⟩=some (.string (s.extract xs[i].1 xs[i].2)):=by
 obtain ⟨g,cap,rfl,h1,h2⟩:=World.ownsRow.form h h0
 have h':W.ownsRow base 50 3 (.slice (some ⟨g,0,none⟩) xs.length cap) xs.length (xs.flatMap (rawV s)):=h
 refine ⟨g,cap,rfl,h2,fun i hi=>?_⟩
 have key:∀j,j<3→W.cell? ⟨g,i*3+j,none⟩=(rawV s xs[i])[j]?:=fun j hj=>by
  rw [own_cell_at h' i j hj hi,flat_cells (rawV s) 3 (fun _=>rfl) xs i j hi hj]
 exact ⟨key 0 (by omega),key 1 (by omega),key 2 (by omega)⟩
theorem extract_all (s:ByteArray):s.extract 0 s.size=s:=bytes_eq.2 (by rw [extract_list,List.drop_zero];exact List.take_of_length_le (by simp))
theorem one_view {W:World} {base:Nat} {v:Value} {s:ByteArray} (h:RawsR W base v s (lx.raws (lx.toks false s.data.toList).1)) (h1:lx.OneOk s.data.toList) :
  ∃g cap,v=.slice (some ⟨g,0,none⟩) 1 cap∧g<W.heap.size∧W.cell? ⟨g,0,none⟩=some (.int .i64 0)∧W.cell? ⟨g,1,none⟩=some (.int .i64 (s.size:Int))∧W.cell? ⟨g,2,none⟩=some (.string s):=by
 rw [lx.one_raws h1] at h
 obtain ⟨g,cap,e,h2,h3⟩:=h.view (by simp)
 have h4:=h3 0 (by simp)
 have e1:s.data.toList.length=s.size:=by simp
 simp only [List.getElem_cons_zero,e1,extract_all,Nat.zero_mul,Nat.zero_add] at h4
 exact ⟨g,cap,e,h2,h4⟩
theorem cutText {s:ByteArray} {x:Nat × Nat} (h:lx.CutOk s.data.toList x):lx.OneOk (s.extract x.1 x.2).data.toList∧x.1≤x.2∧x.2≤s.size:=by
 obtain ⟨h1,h2,h3⟩:=h
 rw [extract_list]
 exact ⟨h3,h1,by simpa using h2⟩
set_option maxHeartbeats 4000000 in
set_option maxRecDepth 100000 in
theorem splitOnce_in {w:World} {s:ByteArray} (hs:s.size≤16384) (hb:brittleB s=false) (hT:Lib0 w) (hok:(lx.toks false s.data.toList).2=.ok):Calls Tryz.prog 9 #[.string s] w (Yes w):=by
 have h1:(s.size:Int)≤16384:=by omega
 have HS:=Lib.hid (lawSplit_any (w:=w) (s:=s) (by omega) hT hb)
 have HT:=Lib.hid hT
 have HR:=Lib.hid (lx.raws_ok s.data.toList)
 have HN0:=Lib.hid (lx.raws_pos (lx.toks false s.data.toList).1)
 have HN1:Hid ((lx.raws (lx.toks false s.data.toList).1).length≤20000):=by
  have h2:=lx.raws_length (lx.toks false s.data.toList).1
  have h3:=lx.toks_length false s.data.toList
  simp at h3
  show _≤_
  omega
 have HOK:=Lib.hid hok
 clear hT hok
 go_enter Tryz.func9,Tryz.ntmps9
 go_wp2_with (first|(go_at_call 10;refine (brittle_any s _ (by omega)).mono ?_;rintro e w' ⟨rfl,rfl⟩;rw [hb])|(go_at_call 25;refine HS.out.mono ?_;intro e w1 hp;unfold SplitOut at hp;rw [HOK.out] at hp;obtain ⟨v,rfl,⟨base,hv⟩,hb1⟩:=hp;have HB1:=Lib.hid hb1;generalize lx.raws (lx.toks false s.data.toList).1=l at *;obtain ⟨g,cap,rfl,hg,hv2⟩:=hv.view HN0.out;have HV:=Lib.hid hv2;have hn1:=HN1.out;obtain ⟨n,hn⟩:∃n,n=l.length:=⟨_,rfl⟩;rw [←hn] at hn1;rw [←hn];have HNN:=Lib.hid hn;clear hn hv hv2 hb1))
 go_loopw [30] (fun i wr=>∃k:Nat,k≤n∧i=.int .i64 (k:Int)∧Hid (Below w1.heap.size w1 wr)) (fun i _=>n-(intOf i).toNat)
 case atStart=>exact ⟨0,Nat.zero_le _,rfl,Below.refl _ _⟩
 case round =>
  rename World=>wo
  obtain ⟨k,hk,rfl,HB⟩:=hrel
  by_cases hlt:k<n
  ·have hz:(k:Int)<(n:Int):=by omega
   have hkl:k<l.length:=by have:=HNN.out;omega
   obtain ⟨c0,c1,c2⟩:=HV.out k hkl
   obtain ⟨hone,hxy,hys⟩:=cutText (HR.out l[k] (List.getElem_mem hkl))
   obtain ⟨x,hx⟩:∃x,x=l[k].1:=⟨_,rfl⟩
   obtain ⟨y,hy⟩:∃y,y=l[k].2:=⟨_,rfl⟩
   rw [←hx] at c0 c2 hone hxy
   rw [←hy] at c1 c2 hone hxy hys
   have hsz:(s.extract x y).size≤20000:=by
    have h2:(s.extract x y).size=((s.data.toList.drop x).take (y-x)).length:=by rw [←extract_list];exact (Array.length_toList ..).symm
    have h3:s.data.toList.length=s.size:=Array.length_toList ..
    rw [List.length_take,List.length_drop,h3] at h2
    omega
   obtain ⟨t,ht⟩:∃t,t=s.extract x y:=⟨_,rfl⟩
   rw [←ht] at c2 hone hsz
   clear hx hy ht hxy hys
   have q0:=(HB.out.cell (p:=⟨g,_,none⟩) hg).trans c0
   have q1:=(HB.out.cell (p:=⟨g,_,none⟩) hg).trans c1
   have q2:=(HB.out.cell (p:=⟨g,_,none⟩) hg).trans c2
   clear c0 c1 c2
   have HONE:=Lib.hid hone
   obtain ⟨W2,hW2⟩:∃W2,W2=wo.alloc (.cells #[.int .i64 (x:Int),.int .i64 (y:Int),.string t] 50):=⟨_,rfl⟩
   have hY:W2.heap[wo.heap.size]?=some (.cells #[.int .i64 (x:Int),.int .i64 (y:Int),.string t] 50 (0,0)):=by rw [hW2];exact heap_alloc_new wo _
   have HB2:Hid (Below wo.heap.size wo W2):=by rw [hW2];exact below_alloc wo _
   have hz2:W2.heap.size=wo.heap.size+1:=by rw [hW2];simp
   have HW2:=Lib.hid hW2
   have HY:=Lib.hid hY
   have HZ2:=Lib.hid hz2
   have HS2:=Lib.hid (split_any (w:=W2) hsz (HT.out.below ((HB1.out.trans (HB.out.mono HB1.out.size)).trans (HB2.out.mono (Nat.le_trans HB1.out.size HB.out.size)))) (by rw [hone.1];simp))
   clear hW2 hY hz2 hone
   go_wp2_with (first|(rw [←HW2.out];go_at_call 26;refine HS2.out.mono ?_;intro e w3 hp;unfold SplitOut at hp;rw [HONE.out.1] at hp;obtain ⟨v,rfl,⟨base,hv⟩,hb3⟩:=hp;have HB3:=Lib.hid hb3;obtain ⟨g2,cap2,rfl,hg2,p0,p1,p2⟩:=one_view hv HONE.out;have hY3:=(hb3.block wo.heap.size (by rw [HZ2.out];exact Nat.lt_succ_self _)).trans HY.out;have d2:=cells_of_heap hY3 2;clear hv hb3 hY3))
   go_quiet (fail)
   go_wp2_with fail
   have HBe:Hid (Below w1.heap.size w1 w3):=HB.out.trans ((HB2.out.trans (HB3.out.mono HB2.out.size)).mono HB.out.size)
   exact ⟨⟨k+1,by omega,by go_num,⟨HBe.out.os,HBe.out.tape,HBe.out.output,HBe.out.size,HBe.out.block⟩⟩,by simp [intOf];omega⟩
  ·have hz:¬(k:Int)<(n:Int):=by omega
   have hn0:0<n:=by have:=HN0.out;have:=HNN.out;omega
   have hn0':(0:Int)<(n:Int):=by omega
   go_wp2_with fail
   go_ret
   exact ⟨rfl,HB1.out.trans (HB.out.mono HB1.out.size)⟩
set_option maxHeartbeats 2000000 in
set_option maxRecDepth 100000 in
/-- The text can't be read to its end: the law says nothing more. -/
theorem splitOnce_bad {w:World} {s:ByteArray} (hs:s.size≤16384) (hb:brittleB s=false) (hT:Lib0 w) (hok:(lx.toks false s.data.toList).2=.fault):Calls Tryz.prog 9 #[.string s] w (Yes w):=by
 have h1:(s.size:Int)≤16384:=by omega
 have HS:=Lib.hid (lawSplit_any (w:=w) (s:=s) (by omega) hT hb)
 have HT:=Lib.hid hT
 have HOK:=Lib.hid hok
 clear hT hok
 go_enter Tryz.func9,Tryz.ntmps9
 go_wp2_with (first|(go_at_call 10;refine (brittle_any s _ (by omega)).mono ?_;rintro e w' ⟨rfl,rfl⟩;rw [hb])|(go_at_call 25;refine HS.out.mono ?_;intro e w1 hp;unfold SplitOut at hp;rw [HOK.out] at hp;obtain ⟨rfl,hb1⟩:=hp;have HB1:=Lib.hid hb1;clear hb1)|(go_at_call 11;refine (lexes_any (HT.out.below HB1.out)).mono ?_;rintro e w2 ⟨rfl,hb2⟩;have HB2:=Lib.hid hb2;clear hb2))
 go_ret
 exact ⟨rfl,HB1.out.trans (HB2.out.mono HB1.out.size)⟩
set_option maxHeartbeats 2000000 in
/-- The walk: where the law says nothing, and where it says something. -/
theorem splitOnce_any {w:World} (s:ByteArray) (hs:s.size≤maxLen) (hT:Lib0 w):Calls Tryz.prog 9 #[.string s] w (Yes w):=by
 unfold maxLen at hs
 have HT:=Lib.hid hT
 clear hT
 by_cases h0:(2147483647:Int)<(s.size:Int)
 ·go_enter Tryz.func9,Tryz.ntmps9
  go_wp2
  go_ret
  exact ⟨rfl,Below.refl _ _⟩
 by_cases h1:(16384:Int)<(s.size:Int)
 ·go_enter Tryz.func9,Tryz.ntmps9
  go_wp2_with (go_at_call 11;refine (lexes_any HT.out).mono ?_;rintro e w2 ⟨rfl,hb2⟩;have HB2:=Lib.hid hb2;clear hb2)
  go_ret
  exact ⟨rfl,HB2.out⟩
 cases hb:brittleB s with
 | true =>
  have hsz:s.size≤16384:=by omega
  go_enter Tryz.func9,Tryz.ntmps9
  go_wp2_with (first|(go_at_call 10;refine (brittle_any s _ (by omega)).mono ?_;rintro e w' ⟨rfl,rfl⟩;rw [hb])|(go_at_call 11;refine (lexes_any HT.out).mono ?_;rintro e w2 ⟨rfl,hb2⟩;have HB2:=Lib.hid hb2;clear hb2))
  go_ret
  exact ⟨rfl,HB2.out⟩
 | false =>
  cases hok:(lx.toks false s.data.toList).2 with
  | crash=>exact absurd hok (lx.toks_fine false (sound_of hb)).1
  | fault=>exact splitOnce_bad (by omega) hb HT.out hok
  | ok=>exact splitOnce_in (by omega) hb HT.out hok
end Go.Proofs.YtaamolahbkgofaaGreatDoor.lex
set_option linter.unusedVariables false
namespace Go.Proofs.YtaamolahbkgofaaGreatDoor.fnSplitOnce
open Go.ChangeShapes Go.WideShapes Go.ChangeAt Go.RowKit
open Go.ChangeMaps (open_string shut_string)
open lex
set_option maxRecDepth 100000 in
theorem lifted (os:Os) (started:os.Started) (H:Type) (enc:TypeId × Value→H) :
  ReturnsInHanded {} Tryz.checked os 9 .any (fun w args=>(Rows.fnSplitOnceSpec.pre enc Tryz.prog Tryz.f9 [] false w args∧laidMetH Tryz.prog laidAll w)∧sizedMet enc Tryz.prog Tryz.f9 (OpenSpec.ofChange Rows.fnSplitOnceSpec) false w args)
   (Rows.fnSplitOnceSpec.post enc Tryz.prog Tryz.f9 false true false false):=by
 refine returnsInHanded_of_change_and (C:=Tryz.checked) (X:=fun w _=>laidMetH Tryz.prog laidAll w) (fun _ _ _ hh h=>h.of_heap hh) own started (by kernel_rfl) Tryz.func9
  (ChangeSpec.witness_shaped (enc:=enc) (C:=Tryz.checked) (os:=os) (X:=fun w _=>laidMetH Tryz.prog laidAll w) false (laidWorld os) #[.string ByteArray.empty] 8 (laidWorld_os _) (laidWorld_shaped os) (by kernel_rfl) (by kernel_rfl) (by kernel_rfl) (laidWorld_met os _)) ?_
 intro W base args ds gs before hval0 hW _ _ hL _
 have hval:∀(j:Nat) t v,Tryz.f9.params[j]?=some t→args[j]?=some v→Value.okWide Tryz.prog W .any base t v:=hval0
 have hW':=hW
 obtain ⟨p,q,hA0,hV,rfl,hfz,hnd⟩:=hW
 have hA:DataW.TrodAll enc Tryz.prog W 0 (fun _=>true) true Tryz.f9.params.toList args.toList ds p:=hA0
 rw [Tryz.params9] at hA hval
 obtain ⟨v0,d0,rfl,rfl,h0⟩:=trodAll_one hA
 obtain ⟨rfl,rfl⟩:=trodVars_none hV
 obtain ⟨a0,rfl,rfl,rfl,w0⟩:=open_string Tryz.underlying9 (hval 0 9 v0 rfl rfl) h0
 clear hA0 hval0
 simp only [List.append_nil] at hW'
 refine (splitOnce_any a0 w0 (lib0_of hL)).mono fun e W' ⟨he,hg⟩=>?_
 subst he
 exact ⟨_,rfl,_,_,_,[],_,[],hW',trodAll_mk1 (shut_bool Tryz.underlying4 _),trodAll_mk1 (shut_string Tryz.underlying9 w0),rfl,hg.frame _,fun h=>by cases h⟩
theorem over:Rows.fnSplitOnceRow.holds Tryz.pinned (OpenSpec.ofChange Rows.fnSplitOnceSpec) :=
 OpenClaim.holds_of_wide 9 Tryz.f9 rfl rfl rfl rfl rfl rfl rfl ⟨rfl,rfl,rfl,rfl,rfl⟩ rfl rfl rfl rfl rfl (by kernel_rfl) Tryz.func9 (by kernel_rfl)
  (of_decide_eq_true (by kernel_rfl)) (by unfold Func.isWrapper;first|(rw [if_pos (by decide +kernel)];kernel_rfl)|(rw [if_neg (by decide +kernel)];exact ⟨rfl,rfl⟩))
  (fun os started H enc _=>lifted os started H enc)
/-- ████ THE STATEMENT ████ -/
theorem proved:Rows.FnSplitOnceCardSaid :=
 Claim7.holds_tied_plain_at .later [] [.data,.data,.data,.data,.handle,.sentinel,.sentinel,.listed,.sentinel,.pinned] true (true,"05128834e9706628839b710431c63ece714b33c913076a224a2057ef2449d0f3") true
  over (fun _ h=>by cases h) (by kernel_rfl) (fun _ h=>by cases h) fnSplitOnce_row_tie rfl ⟨rfl,rfl⟩ (by kernel_rfl) rfl
  (fun f fn hf hfn=>by
   obtain rfl:f=9:=Option.some.inj ((show Tryz.prog.funcNamed "pub-dabber/laws.FnSplitOnce"=some 9 by kernel_rfl).symm.trans hf) |>.symm
   obtain rfl:fn=Tryz.f9:=(Option.some.inj (Tryz.func9.symm.trans hfn)).symm
   exact ⟨by kernel_rfl,fun j t ht=>by
    rw [Tryz.params9] at ht
    have hm:t∈[9]:=by simpa using Array.mem_of_getElem? ht
    have hall:([9].all fun u=>!Tryz.prog.wantsStandIn u)=true:=by kernel_rfl
    exact (show Tryz.prog.wantsStandIn t=false by simpa using List.all_eq_true.1 hall t hm)⟩)
  (by kernel_rfl)
#print axioms proved
end Go.Proofs.YtaamolahbkgofaaGreatDoor.fnSplitOnce
