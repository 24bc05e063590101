/-
  Plain facts for the law laws.FnPlacesOfTokens: line feeds and starts of lines between two tokens. The thin package's Position. The law laws.FnPlacesOfTokens, walked: lines and columns of tokens. The law laws.FnPlacesOfTokens returns true at every text: between the lines and columns of two tokens of one line lie as many bytes as between the tokens, and a token behind a line comment stands on a later line. Conditions: of each, in its statement.
-/
import Derived.Test.YtaamolahbkgofaaGreatDoorK06
import Derived.Test.YtaamolahbkgofaaGreatDoorK01
import Derived.Test.YtaamolahbkgofaaGreatDoorK03
import Derived.Test.YtaamolahbkgofaaGreatDoorK38
import Derived.Test.YtaamolahbkgofaaGreatDoorK31
import Derived.Test.YtaamolahbkgofaaGreatDoorK32
import Derived.Test.YtaamolahbkgofaaGreatDoorTie
import Derived.Test.YtaamolahbkgofaaGreatDoorCards
import Derived.SevenTiedAt
set_option linter.unusedVariables false
namespace Go.Proofs.YtaamolahbkgofaaGreatDoor.lx
open lines
theorem atC_step {s:Bs} {a:Nat} {cs:List Cm} (h:∀j (h:j<cs.length),ComOk s (atC a cs j) cs[j]) (j:Nat) (hj:j<cs.length):atC a cs j≤atC a cs (j+1):=by
 rw [atC_succ _ _ _ hj]
 have h1:=(h j hj).pos
 have h2:=(h j hj).fin
 omega
theorem atC_mono {s:Bs} {a:Nat} {cs:List Cm} (h:∀j (h:j<cs.length),ComOk s (atC a cs j) cs[j]):∀n,n≤cs.length→∀j,j≤n→atC a cs j≤atC a cs n
 | 0,_,j,hj=>by
  have:j=0:=by omega
  rw [this]
  exact Nat.le_refl _
 | n+1,hn,j,hj=>by
  rcases Nat.lt_or_ge j (n+1) with hlt|hge
  ·exact Nat.le_trans (atC_mono h n (by omega) j (by omega)) (atC_step h n (by omega))
  ·have:j=n+1:=by omega
   rw [this]
   exact Nat.le_refl _
theorem feeds_raw {s:Bs} {a:Nat} {c:Cm} (h:ComOk s a c) (h10:c.raw.getLast?=some 10):feeds s c.pos<feeds s c.fin:=by
 have e:s.take c.fin=s.take c.pos++c.raw:=by
  rw [h.fin,List.take_add,h.raw]
 have hm:(10:UInt8)∈c.raw:=List.mem_of_getLast? h10
 have:=List.count_pos_iff.2 hm
 unfold feeds
 rw [e,List.count_append]
 omega
theorem pot_plain {s:Bs} {l:List Tk} (hP:∀i (h:i<l.length),TokOk s (atT 0 l i) l[i]) (hs:s.length≤16384) {k:Nat} (hk:k<l.length) (h0:0<k) (hj:k-1<l.length) :
  feeds s l[k-1].fin≤feeds s l[k].pos∧(feeds s l[k].pos=feeds s l[k-1].fin→((l[k].pos-startOf s l[k].pos:Nat):Int)-((l[k-1].fin-startOf s l[k-1].fin:Nat):Int)=(l[k].pos:Int)-(l[k-1].fin:Int)) ∧
  l[k].pos-startOf s l[k].pos≤16384∧l[k-1].fin-startOf s l[k-1].fin≤16384∧l[k].pos≤16384∧l[k-1].fin≤16384∧((∃c∈l[k].coms,c.raw.getLast?=some 10)→feeds s l[k-1].fin<feeds s l[k].pos):=by
 have hT:=hP k hk
 have e:atT 0 l k=l[k-1].fin:=by
  have h:=atT_succ l 0 (k-1) hj
  rwa [Nat.sub_add_cancel h0] at h
 rw [e] at hT
 have hm:=atC_mono hT.coms
 have h1:=hm _ (Nat.le_refl _) 0 (Nat.zero_le _)
 have h1':l[k-1].fin≤atC l[k-1].fin l[k].coms l[k].coms.length:=by
  have e2:atC l[k-1].fin l[k].coms 0=l[k-1].fin:=by cases l[k].coms <;> rfl
  rwa [e2] at h1
 have h2:=hT.pos
 have h3:=hT.fin
 have h4:=hT.le
 have hle:l[k-1].fin≤l[k].pos:=by omega
 have hp:l[k].pos≤s.length:=by omega
 refine ⟨feeds_mono s hle,fun he=>?_,by omega,by omega,by omega,by omega,fun ⟨c,hc,h10⟩=>?_⟩
 ·have es:startOf s l[k].pos=startOf s l[k-1].fin:=by unfold startOf;rw [he]
  have hl:=startOf_le s l[k-1].fin (by omega)
  rw [es]
  omega
 ·obtain ⟨j,hjc,rfl⟩:=List.getElem_of_mem hc
  have hco:=hT.coms j hjc
  have f1:=feeds_raw hco h10
  have f2:=hm j (by omega) 0 (Nat.zero_le _)
  have e2:atC l[k-1].fin l[k].coms 0=l[k-1].fin:=by cases l[k].coms <;> rfl
  rw [e2] at f2
  have f3:=hm _ (Nat.le_refl _) (j+1) (by omega)
  rw [atC_succ _ _ _ hjc] at f3
  have f4:=hco.pos
  have f5:=feeds_mono s (a:=l[k-1].fin) (b:=l[k].coms[j].pos) (by omega)
  have f6:=feeds_mono s (a:=l[k].coms[j].fin) (b:=l[k].pos) (by omega)
  omega
end Go.Proofs.YtaamolahbkgofaaGreatDoor.lx
set_option linter.unusedVariables false
set_option linter.unusedSimpArgs false
namespace Go.Proofs.YtaamolahbkgofaaGreatDoor.lex
open Go.RowKit mem lines plain
theorem psi_below {w w':World} {o:Obj} (h:(w.alloc o).grownBy w' (some w.heap.size)):Below w.heap.size w w':=by
 have hsz:(w.alloc o).heap.size=w.heap.size+1:=by simp
 refine ⟨h.os,h.tape,h.output,by have:=h.size;omega,fun k hk=>?_⟩
 rw [h.block k (by omega) (by simp;omega)]
 exact Below.heap_alloc w o k hk
/-- A place's lines and columns. -/
def placeV (s:ByteArray) (n m:Nat):Value:=.agg #[.int .i64 (feeds s.data.toList n:Nat),.int .i64 ((n-startOf s.data.toList n:Nat):Int),.int .i64 (feeds s.data.toList m:Nat),.int .i64 ((m-startOf s.data.toList m:Nat):Int)]
/-- Four cells of a block are written. -/
def put4 (W:World) (y:Nat) (v0 v1 v2 v3:Value):World:=(((W.setCell ⟨y,0,none⟩ v0).setCell ⟨y,1,none⟩ v1).setCell ⟨y,2,none⟩ v2).setCell ⟨y,3,none⟩ v3
theorem put4_heap {W:World} {y:Nat} {t:TypeId} {a0 a1 a2 a3:Value} (h:W.heap[y]?=some (.cells #[a0,a1,a2,a3] t (0,0))) (v0 v1 v2 v3:Value):(put4 W y v0 v1 v2 v3).heap[y]?=some (.cells #[v0,v1,v2,v3] t (0,0)):=by
 have e:=set_of_heap (set_of_heap (set_of_heap (set_of_heap h 0 v0) 1 v1) 2 v2) 3 v3
 simp only [List.setIfInBounds_toArray,List.set_cons_zero,List.set_cons_succ] at e
 exact e
theorem put4_grown (W:World) (y:Nat) (v0 v1 v2 v3:Value):W.grownBy (put4 W y v0 v1 v2 v3) (some y) :=
 grown_set (grown_set (grown_set (grown_set (grown_refl W (some y)) 0 v0) 1 v1) 2 v2) 3 v3
theorem psi_results {W:World} {y:Nat} {tmps:Array Value} {v0 v1 v2 v3:Value} (hp:tmps.getD 6 undef=.pointer (some ⟨y,0,none⟩)) (h:W.heap[y]?=some (.cells #[v0,v1,v2,v3] 33 (0,0))):(results Tryz.f14 tmps).run Tryz.prog W=.ok (.agg #[v0,v1,v2,v3]) W :=
 results_cell_row Tryz.results14 tmps W y 33 _ (0,0) _ hp h Tryz.underlying33 rfl (by kernel_rfl)
set_option maxHeartbeats 1000000 in
set_option maxRecDepth 100000 in
theorem psi_any (s:ByteArray) (n m:Nat) (w:World) (hT:TabsAt w) (hs:s.size≤100000) (hnm:n≤m) (hm:m≤s.size) :
  Calls Tryz.prog 14 #[.string s,.int .i64 (n:Int),.int .i64 (m:Int)] w fun e w'=>e=.returned (placeV s n m)∧Below w.heap.size w w':=by
 obtain ⟨w0,hw0⟩:∃w0,w0=w.alloc (.cells #[.int .i64 0,.int .i64 0,.int .i64 0,.int .i64 0] 33):=⟨_,rfl⟩
 have hb0:Below w.heap.size w w0:=by rw [hw0];exact below_alloc w _
 have hn0:w0.heap[w.heap.size]?=some (.cells #[.int .i64 0,.int .i64 0,.int .i64 0,.int .i64 0] 33 (0,0)):=by rw [hw0];exact heap_alloc_new w _
 have hz0:w0.heap.size=w.heap.size+1:=by rw [hw0];simp
 have F:FileOk (w0.alloc (.cells #[.string ⟨#[]⟩,.string s,.slice none 0 0] 68)) w0.heap.size s:=by
  refine .inl ⟨⟨#[]⟩, ?_⟩
  exact heap_alloc_new w0 _
 have hT0:Tabs w.heap.size (w0.alloc (.cells #[.string ⟨#[]⟩,.string s,.slice none 0 0] 68)):=⟨w,rfl,hT,hb0.trans ((below_alloc w0 _).mono hb0.size)⟩
 have HP:=Lib.hid (position_any s w0.heap.size n m _ hT0 hb0.size F hs hnm hm)
 have HB0:=Lib.hid hb0
 have HN0:=Lib.hid hn0
 have HZ0:=Lib.hid hz0
 have HW0:=Lib.hid hw0
 clear F hT0 hT hb0 hn0 hz0 hw0
 go_enter Tryz.func14,Tryz.ntmps14
 go_wp2_with fail
 rw [←HW0.out,←HZ0.out]
 refine HP.out.mono ?_
 rintro e w1 ⟨q,p,src,rfl,hq,hle,hg⟩
 have c0:=cells_of_heap hq 3
 have c1:=cells_of_heap hq 4
 have c2:=cells_of_heap hq 5
 have c3:=cells_of_heap hq 6
 have hr1:w1.heap[w.heap.size]?=some (.cells #[.int .i64 0,.int .i64 0,.int .i64 0,.int .i64 0] 33 (0,0)):=by
  have e:=HZ0.out
  rw [hg.block w.heap.size (by simp;omega) (by simp;omega)]
  exact (Below.heap_alloc w0 _ _ (by omega)).trans HN0.out
 have HR1:=Lib.hid hr1
 have r0:=cells_of_heap hr1 0
 have r1:=cells_of_heap hr1 1
 have r2:=cells_of_heap hr1 2
 have r3:=cells_of_heap hr1 3
 have f0:=free_of_heap hr1 0
 have f1:=free_of_heap hr1 1
 have f2:=free_of_heap hr1 2
 have f3:=free_of_heap hr1 3
 have HG:=Lib.hid (HB0.out.trans ((psi_below hg).mono HB0.out.size))
 clear hq hg hle hr1
 go_wp2_with fail
 refine region_StQ 17 (by kernel_rfl) (by kernel_rfl) ?_
 simp only [List.take_succ_cons,List.take_zero,List.drop_succ_cons,List.drop_zero]
 iterate 17 (refine StQ.step (fun K hK=>?_);go_simp;refine hK _ ?_;clear hK K)
 refine StQ.nil ?_
 go_wp2_with fail
 show bodyPost _ _ _ .ret _ (put4 w1 w.heap.size (.int .i64 (feeds s.data.toList n:Nat)) (.int .i64 ((n-startOf s.data.toList n:Nat):Int)) (.int .i64 (feeds s.data.toList m:Nat)) (.int .i64 ((m-startOf s.data.toList m:Nat):Int))).drew
 refine bodyPost_ret (psi_results rfl (put4_heap HR1.out _ _ _ _)) rfl ⟨rfl, ?_⟩
 have h4:=put4_grown w1 w.heap.size (.int .i64 (feeds s.data.toList n:Nat)) (.int .i64 ((n-startOf s.data.toList n:Nat):Int)) (.int .i64 (feeds s.data.toList m:Nat)) (.int .i64 ((m-startOf s.data.toList m:Nat):Int))
 refine Below.drew ?_
 exact ⟨h4.os.trans HG.out.os,h4.tape.trans HG.out.tape,h4.output.trans HG.out.output,Nat.le_trans HG.out.size h4.size,fun k hk=>(h4.block k (by have:=HG.out.size;omega) (by simp;omega)).trans (HG.out.block k hk)⟩
end Go.Proofs.YtaamolahbkgofaaGreatDoor.lex
set_option linter.unusedVariables false
set_option linter.unusedSimpArgs false
namespace Go.Proofs.YtaamolahbkgofaaGreatDoor.lex
open Go.RowKit mem lines plain
set_option maxHeartbeats 1000000 in
set_option maxRecDepth 100000 in
theorem lexed_any {w:World} {s:ByteArray} (hs:s.size≤16384) (hb:brittleB s=false) (hT:Lib0 w):Calls Tryz.prog 13 #[.string s] w (LexOut s w):=by
  have HL:=Lib.hid (lex_any (w:=w) (s:=s) (by omega) hT (lx.toks_fine false (sound_of hb)).1)
  clear hT
  go_enter Tryz.func13,Tryz.ntmps13
  go_wp2_with (first|(go_at_call 31;refine (padded_any s _ (by omega) hb).mono ?_;rintro e w' ⟨rfl,rfl⟩)|(go_at_call 12;refine HL.out.mono ?_;rintro e w1 ⟨v,z,rfl,ht,hb1⟩;have HT1:=Lib.hid ht;have HB1:=Lib.hid hb1;clear ht hb1))
  exact bodyPost_ret (v:=.tuple #[v,.int .i64 z,.bool (okB (lx.toks false s.data.toList).2)]) (by simp [results,Tryz.results13,go_sem]) rfl ⟨_,_,rfl,HT1.out,HB1.out⟩
theorem endB_last (l:lx.Bs) (c:UInt8):endB ⟨l.toArray⟩ ⟨#[c]⟩=decide (l.getLast?=some c):=by
  rw [Bool.eq_iff_iff]
  simp only [endB,decide_eq_true_eq]
  show (1≤l.length∧l.drop (l.length-1)=[c])↔_
  rw [List.getLast?_eq_getElem?]
  cases h:l.length with
  | zero =>
    have:l=[]:=List.length_eq_zero_iff.1 h
    subst this
    simp
  | succ n =>
    have hn:n<l.length:=by omega
    rw [Nat.add_sub_cancel,List.getElem?_eq_getElem hn]
    have e:l.drop n=[l[n]]:=by
      rw [List.drop_eq_getElem_cons hn,List.drop_eq_nil_of_le (by omega)]
    rw [e]
    simp
theorem pot_S2 {w1 W0 W:World} {g k P F:Nat} (hg:g<w1.heap.size) (h0:Hid (Below w1.heap.size w1 W0)) (hb:Hid (Below W0.heap.size W0 W)) (q5:w1.cell? ⟨g,k*8+5,none⟩=some (.int .i64 (P:Int))) (q6:w1.cell? ⟨g,k*8+6,none⟩=some (.int .i64 (F:Int))) :
    W.cell? ⟨g,k*8+5,none⟩=some (.int .i64 (P:Int))∧W.cell? ⟨g,k*8+6,none⟩=some (.int .i64 (F:Int))∧Hid (Below W0.heap.size W0 W) :=
  have hx:Below w1.heap.size w1 W:=h0.out.trans (hb.out.mono h0.out.size)
  ⟨(hx.cell (p:=⟨g,_,none⟩) hg).trans q5,(hx.cell (p:=⟨g,_,none⟩) hg).trans q6,hb⟩
/-- The cells of a token that the first region reads. -/
theorem pot_S {w1 W:World} {g k P F:Nat} (hg:g<w1.heap.size) (hb:Hid (Below w1.heap.size w1 W)) (q5:w1.cell? ⟨g,k*8+5,none⟩=some (.int .i64 (P:Int))) (q6:w1.cell? ⟨g,k*8+6,none⟩=some (.int .i64 (F:Int))) :
    W.cell? ⟨g,k*8+5,none⟩=some (.int .i64 (P:Int))∧W.cell? ⟨g,k*8+6,none⟩=some (.int .i64 (F:Int))∧Hid (Below w1.heap.size w1 W) :=
  ⟨(hb.out.cell (p:=⟨g,_,none⟩) hg).trans q5,(hb.out.cell (p:=⟨g,_,none⟩) hg).trans q6,hb⟩
theorem pot_put {w1 W:World} {y:Nat} {v0 v1 v2 v3:Value} (hb:Hid (Below w1.heap.size w1 W)) (hy:w1.heap.size≤y):Hid (Below w1.heap.size w1 (put4 W y v0 v1 v2 v3)):=by
  have h4:=put4_grown W y v0 v1 v2 v3
  have h:=hb.out
  exact ⟨h4.os.trans h.os,h4.tape.trans h.tape,h4.output.trans h.output,Nat.le_trans h.size h4.size,fun k hk=>(h4.block k (by have:=h.size;omega) (by simp;omega)).trans (h.block k hk)⟩
set_option maxHeartbeats 16000000 in
set_option maxRecDepth 100000 in
theorem pot_in {w:World} {s:ByteArray} (hs:s.size≤16384) (hb:brittleB s=false) (hT:Lib0 w):Calls Tryz.prog 4 #[.string s] w (Yes w):=by
  have h1:(s.size:Int)≤16384:=by omega
  have HL:=Lib.hid (lexed_any hs hb hT)
  have HT:=Lib.hid hT
  have HP:=Lib.hid (fun i h=>(lx.toks_steps false s.data.toList).place i h)
  have HL1:=Lib.hid (lx.toks_length false s.data.toList)
  have HL2:=Lib.hid (fun i h=>lx.toks_coms (np:=false) (s:=s.data.toList) i h)
  clear hT
  go_enter Tryz.func4,Tryz.ntmps4
  go_wp2_with (first|(go_at_call 10;refine (brittle_any s _ (by omega)).mono ?_;rintro e w' ⟨rfl,rfl⟩;rw [hb])|(go_at_call 13;refine HL.out.mono ?_;rintro e w1 ⟨v,z,rfl,ht,hb1⟩;have HB1:=Lib.hid hb1;obtain ⟨b,cap,rfl,hv⟩:=ht.view;have HV:=Lib.hid hv;clear hb1 ht hv;generalize lx.toks false s.data.toList=r at *;obtain ⟨l,en⟩:=r;simp only at HP HV HL1 HL2 ⊢;have hn1:l.length≤16385:=(by have:=HL1.out;simp at this;omega);obtain ⟨n,hn⟩:∃n,n=l.length:=⟨_,rfl⟩;rw [←hn] at hn1;rw [←hn];have HNN:=Lib.hid hn;clear hn))
  go_loopw [30] (fun i wr=>∃k:Nat,k≤n∧i=.int .i64 (k:Int)∧Hid (Below w1.heap.size w1 wr)) (fun i _=>n-(intOf i).toNat)
  case atStart=>exact ⟨0,Nat.zero_le _,rfl,Below.refl _ _⟩
  case round =>
    rename World=>wo
    obtain ⟨k,hk,rfl,HB⟩:=hrel
    by_cases hlt:k<n
    · have hz:(k:Int)<(n:Int):=by omega
      have hkl:k<l.length:=by have:=HNN.out;omega
      obtain ⟨g,cv,rfl,hg,ht⟩:=HV.out k hkl
      obtain ⟨cb,ccap,rfl,hcv⟩:=ht.coms.view
      have HCV:=Lib.hid hcv
      clear hcv
      have HG1:=Lib.hid hg
      have Q5:=Lib.hid ht.pos
      have Q6:=Lib.hid ht.fin
      have Q7:=Lib.hid ht.com
      have hto:=HP.out k hkl
      have HTO:=Lib.hid hto
      have hpf:l[k].pos≤l[k].fin:=by have:=hto.fin;omega
      have hfs:l[k].fin≤s.size:=by have:=hto.le;simpa using this
      obtain ⟨P,hP⟩:∃P,P=l[k].pos:=⟨_,rfl⟩
      obtain ⟨F,hF⟩:∃F,F=l[k].fin:=⟨_,rfl⟩
      rw [←hP] at Q5 hpf
      rw [←hF] at Q6 hpf hfs
      have HPF:=Lib.hid hpf
      have HFS:=Lib.hid hfs
      have HPP:=Lib.hid hP
      have HFF:=Lib.hid hF
      clear ht hto hpf hfs hP hF
      have HT1:=Lib.hid (HT.out.tabs.below HB1.out)
      have HBD:Hid (Below w1.heap.size w1 wo.drew):=HB.out.drew
      obtain ⟨L,hL⟩:∃L,L=feeds s.data.toList P:=⟨_,rfl⟩
      obtain ⟨C,hC⟩:∃C,C=P-startOf s.data.toList P:=⟨_,rfl⟩
      obtain ⟨L',hL'⟩:∃L,L=feeds s.data.toList F:=⟨_,rfl⟩
      obtain ⟨C',hC'⟩:∃C,C=F-startOf s.data.toList F:=⟨_,rfl⟩
      have HPS:Hid (∀W,TabsAt W→Calls Tryz.prog 14 #[.string s,.int .i64 (P:Int),.int .i64 (F:Int)] W fun e w'=>e=.returned (.agg #[.int .i64 (L:Nat),.int .i64 (C:Nat),.int .i64 (L':Nat),.int .i64 (C':Nat)])∧Below W.heap.size W w'):=fun W hW=>by
        have h:=psi_any s P F W hW (by omega) HPF.out HFS.out
        rw [placeV,←hL,←hC,←hL',←hC'] at h
        exact h
      have HLL:=Lib.hid hL
      have HCC:=Lib.hid hC
      clear hL hC hL' hC'
      have hs9:=pot_S HG1.out HBD Q5.out Q6.out
      go_wp2_with fail
      go_region_held3 (fun W=>W.cell? ⟨g,k*8+5,none⟩=some (.int .i64 (P:Int))∧W.cell? ⟨g,k*8+6,none⟩=some (.int .i64 (F:Int))∧Hid (Below w1.heap.size w1 W))
        (first|assumption|exact hs9|exact pot_S HG1.out ‹Hid (Below w1.heap.size w1 _)› Q5.out Q6.out|exact pot_S HG1.out (Lib.hid (HB2.out.alloc HB2.out.size _)) Q5.out Q6.out|exact pot_S HG1.out (Lib.hid (HBD.out.alloc HBD.out.size _)) Q5.out Q6.out|exact pot_S HG1.out (pot_put HB2 HB.out.size) Q5.out Q6.out)
        (first|(go_at_call 14;refine (HPS.out _ (HT1.out.below (‹_∧_∧Hid (Below _ _ _)›).2.2.out)).mono ?_;rintro e w2 ⟨rfl,hb2⟩;(try have hr:=(hb2.block wo.heap.size (by simp)).trans (heap_alloc_new wo.drew _));(try have r0:=cells_of_heap hr 0);(try have r1:=cells_of_heap hr 1);(try have r2:=cells_of_heap hr 2);(try have r3:=cells_of_heap hr 3);(try have f0:=free_of_heap hr 0);(try have f1:=free_of_heap hr 1);(try have f2:=free_of_heap hr 2);(try have f3:=free_of_heap hr 3);have HB2:Hid (Below w1.heap.size w1 w2):=((‹_∧_∧Hid (Below _ _ _)›).2.2.out.trans (hb2.mono (‹_∧_∧Hid (Below _ _ _)›).2.2.out.size));clear hb2))
      all_goals first
        | (obtain ⟨W,hW⟩:∃W,W=w2.alloc (.cells #[.int .i64 (L:Nat),.int .i64 (C:Nat),.int .i64 (L':Nat),.int .i64 (C':Nat)] 33):=⟨_,rfl⟩
           obtain ⟨y,hy⟩:∃y,y=w2.heap.size:=⟨_,rfl⟩
           rw [←hW,←hy]
           have HY:Hid (W.heap[y]?=some (.cells #[.int .i64 (L:Nat),.int .i64 (C:Nat),.int .i64 (L':Nat),.int .i64 (C':Nat)] 33 (0,0))):=by rw [hW,hy];exact heap_alloc_new w2 _
           have HBW:Hid (Below w1.heap.size w1 W):=by rw [hW];exact HB2.out.alloc HB2.out.size _
           have HYS:Hid (w1.heap.size≤y):=by rw [hy];exact HB2.out.size)
        | (obtain ⟨W,hW⟩:∃W,W=put4 w2 wo.heap.size (.int .i64 (L:Nat)) (.int .i64 (C:Nat)) (.int .i64 (L':Nat)) (.int .i64 (C':Nat)):=⟨_,rfl⟩
           obtain ⟨y,hy⟩:∃y,y=wo.heap.size:=⟨_,rfl⟩
           have HY:Hid (W.heap[y]?=some (.cells #[.int .i64 (L:Nat),.int .i64 (C:Nat),.int .i64 (L':Nat),.int .i64 (C':Nat)] 33 (0,0))):=by rw [hW,hy];exact put4_heap hr _ _ _ _
           have HBW:Hid (Below w1.heap.size w1 W):=by rw [hW];exact pot_put HB2 HB.out.size
           have HYS:Hid (w1.heap.size≤y):=by rw [hy];exact HB.out.size
           rw [put4] at hW
           rw [←hW,←hy]
           clear r0 r1 r2 r3 f0 f1 f2 f3 hr)
      all_goals
        have HWW:=Lib.hid hW
        have HYY:=Lib.hid hy
        clear hW hy hs9
        by_cases hk0:k=0
        · have hk1:¬(0:Int)<(k:Int):=by omega
          have hk2:¬0<k:=by omega
          have HK0:=Lib.hid hk0
          clear hk0
          go_wp2_with fail
          exact ⟨⟨k+1,by omega,by go_num,HBW⟩,by simp [intOf];omega⟩
        · have hjl:k-1<l.length:=by omega
          obtain ⟨g2,cv2,e',hg2,ht2⟩:=HV.out (k-1) hjl
          cases e'
          have R5:=Lib.hid ht2.pos
          have R6:=Lib.hid ht2.fin
          have hto2:=HP.out (k-1) hjl
          have hpf0:l[k-1].pos≤l[k-1].fin:=by have:=hto2.fin;omega
          have hfs0:l[k-1].fin≤s.size:=by have:=hto2.le;simpa using this
          obtain ⟨P0,hP0⟩:∃P,P=l[k-1].pos:=⟨_,rfl⟩
          obtain ⟨F0,hF0⟩:∃F,F=l[k-1].fin:=⟨_,rfl⟩
          rw [←hP0] at R5 hpf0
          rw [←hF0] at R6 hpf0 hfs0
          have HPF0:=Lib.hid hpf0
          have HFS0:=Lib.hid hfs0
          have HFF0:=Lib.hid hF0
          clear ht2 hto2 hpf0 hfs0 hP0 hF0
          obtain ⟨M,hM⟩:∃L,L=feeds s.data.toList P0:=⟨_,rfl⟩
          obtain ⟨D,hD⟩:∃C,C=P0-startOf s.data.toList P0:=⟨_,rfl⟩
          obtain ⟨M',hM'⟩:∃L,L=feeds s.data.toList F0:=⟨_,rfl⟩
          obtain ⟨D',hD'⟩:∃C,C=F0-startOf s.data.toList F0:=⟨_,rfl⟩
          have HPS0:Hid (∀W,TabsAt W→Calls Tryz.prog 14 #[.string s,.int .i64 (P0:Int),.int .i64 (F0:Int)] W fun e w'=>e=.returned (.agg #[.int .i64 (M:Nat),.int .i64 (D:Nat),.int .i64 (M':Nat),.int .i64 (D':Nat)])∧Below W.heap.size W w'):=fun W hW=>by
            have h:=psi_any s P0 F0 W hW (by omega) HPF0.out HFS0.out
            rw [placeV,←hM,←hD,←hM',←hD'] at h
            exact h
          have HMM:=Lib.hid hM'
          have HDD:=Lib.hid hD'
          clear hM hD hM' hD'
          have hk1:0<k:=by omega
          have hk1':(0:Int)<(k:Int):=by omega
          have hw1:=IntWalk.i64_in ((k:Int)-1) (by omega)
          have e1:((k:Int)-1).toNat=k-1:=by omega
          have hz1:(k:Int)-1<(n:Int):=by omega
          have hz2:(1:Int)≤(k:Int):=by omega
          clear hk0
          go_wp2_with fail
          have HBD2:Hid (Below W.heap.size W W.drew):=(Below.refl _ _).drew
          have hs11:=pot_S2 HG1.out HBW HBD2 R5.out R6.out
          go_region_held3 (fun W'=>W'.cell? ⟨g,(k-1)*8+5,none⟩=some (.int .i64 (P0:Int))∧W'.cell? ⟨g,(k-1)*8+6,none⟩=some (.int .i64 (F0:Int))∧Hid (Below W.heap.size W W'))
            (first|assumption|exact hs11|exact pot_S2 HG1.out HBW ‹Hid (Below W.heap.size W _)› R5.out R6.out|exact pot_S2 HG1.out HBW (Lib.hid (HB3.out.alloc HB3.out.size _)) R5.out R6.out|exact pot_S2 HG1.out HBW (Lib.hid (HBD2.out.alloc HBD2.out.size _)) R5.out R6.out|exact pot_S2 HG1.out HBW (pot_put HB3 (Nat.le_refl _)) R5.out R6.out)
            (first|(go_at_call 14;refine (HPS0.out _ (HT1.out.below (HBW.out.trans ((‹_∧_∧Hid (Below W.heap.size W _)›).2.2.out.mono HBW.out.size)))).mono ?_;rintro e w3 ⟨rfl,hb2⟩;(try have hr:=(hb2.block W.heap.size (by simp)).trans (heap_alloc_new W.drew _));(try have r0:=cells_of_heap hr 0);(try have r1:=cells_of_heap hr 1);(try have r2:=cells_of_heap hr 2);(try have r3:=cells_of_heap hr 3);(try have f0:=free_of_heap hr 0);(try have f1:=free_of_heap hr 1);(try have f2:=free_of_heap hr 2);(try have f3:=free_of_heap hr 3);have HB3:Hid (Below W.heap.size W w3):=((‹_∧_∧Hid (Below W.heap.size W _)›).2.2.out.trans (hb2.mono (‹_∧_∧Hid (Below W.heap.size W _)›).2.2.out.size));clear hb2))
          all_goals first
            | (obtain ⟨W3,hW⟩:∃W,W=w3.alloc (.cells #[.int .i64 (M:Nat),.int .i64 (D:Nat),.int .i64 (M':Nat),.int .i64 (D':Nat)] 33):=⟨_,rfl⟩
               obtain ⟨y3,hy⟩:∃y,y=w3.heap.size:=⟨_,rfl⟩
               rw [←hW,←hy]
               have HY3:Hid (W3.heap[y3]?=some (.cells #[.int .i64 (M:Nat),.int .i64 (D:Nat),.int .i64 (M':Nat),.int .i64 (D':Nat)] 33 (0,0))):=by rw [hW,hy];exact heap_alloc_new w3 _
               have HBW3:Hid (Below W.heap.size W W3):=by rw [hW];exact HB3.out.alloc HB3.out.size _)
            | (obtain ⟨W3,hW⟩:∃W',W'=put4 w3 W.heap.size (.int .i64 (M:Nat)) (.int .i64 (D:Nat)) (.int .i64 (M':Nat)) (.int .i64 (D':Nat)):=⟨_,rfl⟩
               obtain ⟨y3,hy⟩:∃y,y=W.heap.size:=⟨_,rfl⟩
               have HY3:Hid (W3.heap[y3]?=some (.cells #[.int .i64 (M:Nat),.int .i64 (D:Nat),.int .i64 (M':Nat),.int .i64 (D':Nat)] 33 (0,0))):=by rw [hW,hy];exact put4_heap hr _ _ _ _
               have HBW3:Hid (Below W.heap.size W W3):=by rw [hW];exact pot_put HB3 (Nat.le_refl _)
               rw [put4] at hW
               rw [←hW,←hy]
               clear r0 r1 r2 r3 f0 f1 f2 f3 hr)
          all_goals
            clear hW hy hs11
            have hY:=(HBW3.out.block y (lt_of_heap HY.out)).trans HY.out
            have HYW:=Lib.hid hY
            have c0:=cells_of_heap hY 0
            have c1:=cells_of_heap hY 1
            have d2:=cells_of_heap HY3.out 2
            have d3:=cells_of_heap HY3.out 3
            have HBX:Hid (Below w1.heap.size w1 W3):=HBW.out.trans (HBW3.out.mono HBW.out.size)
            have q5:=(HBX.out.cell (p:=⟨g,_,none⟩) HG1.out).trans Q5.out
            have q6:=(HBX.out.cell (p:=⟨g,_,none⟩) HG1.out).trans R6.out
            have q7:=(HBX.out.cell (p:=⟨g,_,none⟩) HG1.out).trans Q7.out
            clear hY
            obtain ⟨m,hm⟩:∃m,m=l[k].coms.length:=⟨_,rfl⟩
            have HM:=Lib.hid hm
            have hm1:m≤16384:=by have:=HL2.out k hkl;rw [←hm] at this;simp at this;omega
            rw [←hm] at q7
            clear hm
            have hLM:Hid (M'≤L∧(L=M'→(C:Int)-(D':Int)=(P:Int)-(F0:Int))∧C≤16384∧D'≤16384∧P≤16384∧F0≤16384∧((∃c∈l[k].coms,c.raw.getLast?=some 10)→M'<L)):=by
              have h:=lx.pot_plain HP.out (by simpa using hs) hkl hk1 hjl
              rw [←HPP.out,←HFF0.out,←HLL.out,←HMM.out,←HCC.out,←HDD.out] at h
              exact h
            obtain ⟨p1,p2,p3,p4,p5,p6,p7⟩:=hLM
            have P7:=Lib.hid p7
            clear p7
            have hv1:=IntWalk.i64_in ((C:Int)-(D':Int)) (by omega)
            have hv2:=IntWalk.i64_in ((P:Int)-(F0:Int)) (by omega)
            have t1:¬(L:Int)<(M':Int):=by omega
            have t2:¬L<M':=by omega
            by_cases hEq:L=M'
            · have e3:=p2 hEq
              subst hEq
              have t3:(((C:Int)-(D':Int)) != ((P:Int)-(F0:Int)))=false:=by rw [e3];simp
              clear p2
              go_wp2_with fail
              go_quiet (fail)
              go_wp2_with fail
              clear c0 c1 d2 d3 q5 q6 q7
              obtain ⟨W4,hW4⟩:∃W4,W4=W3.drewN nq:=⟨_,rfl⟩
              rw [←hW4]
              have HB4:Hid (Below W3.heap.size W3 W4):=by rw [hW4];exact below_drewN (Below.refl _ _) _
              have HW4:=Lib.hid hW4
              clear hW4
              go_loopw [99] (fun i wi=>∃j:Nat,j≤m∧i=.int .i64 (j:Int)∧Hid (Below W3.heap.size W3 wi)) (fun i _=>m-(intOf i).toNat)
              case atStart=>exact ⟨0,Nat.zero_le _,rfl,HB4⟩
              case round =>
                obtain ⟨j,hj,rfl,HBI⟩:=hrel
                by_cases hjm:j<m
                · have hzj:(j:Int)<(m:Int):=by omega
                  have hjc:j<l[k].coms.length:=by rw [←HM.out];exact hjm
                  obtain ⟨gc,rfl,hgc,hca⟩:=HCV.out j hjc
                  have hbw:Below w1.heap.size w1 wr:=HBX.out.trans (HBI.out.mono HBX.out.size)
                  have b0:=(hbw.cell (p:=⟨gc,_,none⟩) hgc).trans hca.sp
                  have b1:=(hbw.cell (p:=⟨gc,_,none⟩) hgc).trans hca.raw
                  have b2:=(hbw.cell (p:=⟨gc,_,none⟩) hgc).trans hca.pos
                  have b3:=(hbw.cell (p:=⟨gc,_,none⟩) hgc).trans hca.fin
                  have hrl:l[k].coms[j].raw.length≤16384:=by
                    have h:=(HTO.out.coms j hjc)
                    have h2:=h.fin
                    have h3:=h.le
                    simp at h3
                    omega
                  have HEND:Hid (endB ⟨l[k].coms[j].raw.toArray⟩ ⟨#[10]⟩=true→l[k].coms[j].raw.getLast?=some 10):=fun h=>by
                    rw [endB_last] at h
                    simpa using h
                  have HMEM:Hid (l[k].coms[j]∈l[k].coms):=List.getElem_mem hjc
                  clear hca
                  obtain ⟨R,hR⟩:∃R:ByteArray,R=⟨l[k].coms[j].raw.toArray⟩:=⟨_,rfl⟩
                  have hR1:R.size≤16384:=by rw [hR];simpa [ByteArray.size] using hrl
                  rw [←hR] at b1 HEND
                  clear hR hrl
                  have y0:∀o,(wr.alloc o).cell? ⟨y,0,none⟩=some (.int .i64 (L:Nat)):=fun o=>cells_of_heap ((Below.heap_alloc wr o y (Nat.lt_of_lt_of_le (lt_of_heap HYW.out) HBI.out.size)).trans ((HBI.out.block y (lt_of_heap HYW.out)).trans HYW.out)) 0
                  have y2:=fun o=>cells_of_heap ((Below.heap_alloc wr o y3 (Nat.lt_of_lt_of_le (lt_of_heap HY3.out) HBI.out.size)).trans ((HBI.out.block y3 (lt_of_heap HY3.out)).trans HY3.out)) 2
                  cases hend:endB R ⟨#[10]⟩ with
                  | false =>
                    go_wp2_with (first|(go_at_call 15;refine (ends_any R _ _ (by omega) (by decide)).mono ?_;rintro e w' ⟨rfl,rfl⟩;rw [hend]))
                    go_roundw
                    case rel=>exact ⟨j+1,by omega,by go_num,HBI.out.alloc HBI.out.size _⟩
                    case measure=>simp [intOf];omega
                  | true =>
                    have hlt:=P7.out ⟨_,HMEM.out,HEND.out hend⟩
                    first
                      | exact absurd hlt (Nat.lt_irrefl _)
                      | (have u1:=Nat.not_le_of_lt hlt
                         cases hbg:begB R ⟨#[47,42]⟩
                         all_goals
                           go_wp2_with (first|(go_at_call 15;refine (ends_any R _ _ (by omega) (by decide)).mono ?_;rintro e w' ⟨rfl,rfl⟩;rw [hend])|(go_at_call 16;refine (begins_any R _ _ (by omega) (by decide)).mono ?_;rintro e w' ⟨rfl,rfl⟩;rw [hbg]))
                           go_roundw
                           case rel=>exact ⟨j+1,by omega,by go_num,HBI.out.alloc HBI.out.size _⟩
                           case measure=>simp [intOf];omega)
                · have hzj:¬(j:Int)<(m:Int):=by omega
                  go_wp2_with fail
                  go_roundw
                  case rel=>exact ⟨k+1,by omega,by go_num,HBX.out.trans (HBI.out.mono HBX.out.size)⟩
                  case measure=>simp [intOf];omega
            · have t4:((L:Int)==(M':Int))=false:=by simp;omega
              have t5:¬(L:Int)=(M':Int):=by omega
              clear p2
              go_wp2_with fail
              go_quiet (fail)
              go_wp2_with fail
              clear c0 c1 d2 d3 q5 q6 q7
              obtain ⟨W4,hW4⟩:∃W4,W4=W3.drewN nq:=⟨_,rfl⟩
              rw [←hW4]
              have HB4:Hid (Below W3.heap.size W3 W4):=by rw [hW4];exact below_drewN (Below.refl _ _) _
              have HW4:=Lib.hid hW4
              clear hW4
              go_loopw [99] (fun i wi=>∃j:Nat,j≤m∧i=.int .i64 (j:Int)∧Hid (Below W3.heap.size W3 wi)) (fun i _=>m-(intOf i).toNat)
              case atStart=>exact ⟨0,Nat.zero_le _,rfl,HB4⟩
              case round =>
                obtain ⟨j,hj,rfl,HBI⟩:=hrel
                by_cases hjm:j<m
                · have hzj:(j:Int)<(m:Int):=by omega
                  have hjc:j<l[k].coms.length:=by rw [←HM.out];exact hjm
                  obtain ⟨gc,rfl,hgc,hca⟩:=HCV.out j hjc
                  have hbw:Below w1.heap.size w1 wr:=HBX.out.trans (HBI.out.mono HBX.out.size)
                  have b0:=(hbw.cell (p:=⟨gc,_,none⟩) hgc).trans hca.sp
                  have b1:=(hbw.cell (p:=⟨gc,_,none⟩) hgc).trans hca.raw
                  have b2:=(hbw.cell (p:=⟨gc,_,none⟩) hgc).trans hca.pos
                  have b3:=(hbw.cell (p:=⟨gc,_,none⟩) hgc).trans hca.fin
                  have hrl:l[k].coms[j].raw.length≤16384:=by
                    have h:=(HTO.out.coms j hjc)
                    have h2:=h.fin
                    have h3:=h.le
                    simp at h3
                    omega
                  have HEND:Hid (endB ⟨l[k].coms[j].raw.toArray⟩ ⟨#[10]⟩=true→l[k].coms[j].raw.getLast?=some 10):=fun h=>by
                    rw [endB_last] at h
                    simpa using h
                  have HMEM:Hid (l[k].coms[j]∈l[k].coms):=List.getElem_mem hjc
                  clear hca
                  obtain ⟨R,hR⟩:∃R:ByteArray,R=⟨l[k].coms[j].raw.toArray⟩:=⟨_,rfl⟩
                  have hR1:R.size≤16384:=by rw [hR];simpa [ByteArray.size] using hrl
                  rw [←hR] at b1 HEND
                  clear hR hrl
                  have y0:∀o,(wr.alloc o).cell? ⟨y,0,none⟩=some (.int .i64 (L:Nat)):=fun o=>cells_of_heap ((Below.heap_alloc wr o y (Nat.lt_of_lt_of_le (lt_of_heap HYW.out) HBI.out.size)).trans ((HBI.out.block y (lt_of_heap HYW.out)).trans HYW.out)) 0
                  have y2:=fun o=>cells_of_heap ((Below.heap_alloc wr o y3 (Nat.lt_of_lt_of_le (lt_of_heap HY3.out) HBI.out.size)).trans ((HBI.out.block y3 (lt_of_heap HY3.out)).trans HY3.out)) 2
                  cases hend:endB R ⟨#[10]⟩ with
                  | false =>
                    go_wp2_with (first|(go_at_call 15;refine (ends_any R _ _ (by omega) (by decide)).mono ?_;rintro e w' ⟨rfl,rfl⟩;rw [hend]))
                    go_roundw
                    case rel=>exact ⟨j+1,by omega,by go_num,HBI.out.alloc HBI.out.size _⟩
                    case measure=>simp [intOf];omega
                  | true =>
                    have hlt:=P7.out ⟨_,HMEM.out,HEND.out hend⟩
                    first
                      | exact absurd hlt (Nat.lt_irrefl _)
                      | (have u1:=Nat.not_le_of_lt hlt
                         cases hbg:begB R ⟨#[47,42]⟩
                         all_goals
                           go_wp2_with (first|(go_at_call 15;refine (ends_any R _ _ (by omega) (by decide)).mono ?_;rintro e w' ⟨rfl,rfl⟩;rw [hend])|(go_at_call 16;refine (begins_any R _ _ (by omega) (by decide)).mono ?_;rintro e w' ⟨rfl,rfl⟩;rw [hbg]))
                           go_roundw
                           case rel=>exact ⟨j+1,by omega,by go_num,HBI.out.alloc HBI.out.size _⟩
                           case measure=>simp [intOf];omega)
                · have hzj:¬(j:Int)<(m:Int):=by omega
                  go_wp2_with fail
                  go_roundw
                  case rel=>exact ⟨k+1,by omega,by go_num,HBX.out.trans (HBI.out.mono HBX.out.size)⟩
                  case measure=>simp [intOf];omega
    · have hz:¬(k:Int)<(n:Int):=by omega
      go_wp2_with (first|(go_at_call 11;refine (lexes_any (HT.out.below (HB1.out.trans (HB.out.mono HB1.out.size)))).mono ?_;rintro e w2 ⟨rfl,hb2⟩;have HB2:=Lib.hid hb2;clear hb2))
      go_ret
      exact ⟨rfl,(HB1.out.trans (HB.out.mono HB1.out.size)).trans (HB2.out.mono (HB1.out.trans (HB.out.mono HB1.out.size)).size)⟩
set_option maxHeartbeats 2000000 in
/-- The walk: where the law says nothing, and where it says something. -/
theorem pot_any {w:World} (s:ByteArray) (hs:s.size≤maxLen) (hT:Lib0 w):Calls Tryz.prog 4 #[.string s] w (Yes w):=by
  unfold maxLen at hs
  have HT:=Lib.hid hT
  clear hT
  by_cases h0:(2147483647:Int)<(s.size:Int)
  · go_enter Tryz.func4,Tryz.ntmps4
    go_wp2
    go_ret
    exact ⟨rfl,Below.refl _ _⟩
  by_cases h1:(16384:Int)<(s.size:Int)
  · go_enter Tryz.func4,Tryz.ntmps4
    go_wp2_with (go_at_call 11;refine (lexes_any HT.out).mono ?_;rintro e w2 ⟨rfl,hb2⟩;have HB2:=Lib.hid hb2;clear hb2)
    go_ret
    exact ⟨rfl,HB2.out⟩
  cases hb:brittleB s with
  | true =>
    have hsz:s.size≤16384:=by omega
    go_enter Tryz.func4,Tryz.ntmps4
    go_wp2_with (first|(go_at_call 10;refine (brittle_any s _ (by omega)).mono ?_;rintro e w' ⟨rfl,rfl⟩;rw [hb])|(go_at_call 11;refine (lexes_any HT.out).mono ?_;rintro e w2 ⟨rfl,hb2⟩;have HB2:=Lib.hid hb2;clear hb2))
    go_ret
    exact ⟨rfl,HB2.out⟩
  | false=>exact pot_in (by omega) hb HT.out
end Go.Proofs.YtaamolahbkgofaaGreatDoor.lex
set_option linter.unusedVariables false
namespace Go.Proofs.YtaamolahbkgofaaGreatDoor.fnPlacesOfTokens
open Go.ChangeShapes Go.WideShapes Go.ChangeAt Go.RowKit
open Go.ChangeMaps (open_string shut_string)
open lex
set_option maxRecDepth 100000 in
theorem lifted (os:Os) (started:os.Started) (H:Type) (enc:TypeId × Value→H) :
  ReturnsInHanded {} Tryz.checked os 4 .any (fun w args=>(Rows.fnPlacesOfTokensSpec.pre enc Tryz.prog Tryz.f4 [] false w args∧laidMetH Tryz.prog laidAll w)∧sizedMet enc Tryz.prog Tryz.f4 (OpenSpec.ofChange Rows.fnPlacesOfTokensSpec) false w args)
   (Rows.fnPlacesOfTokensSpec.post enc Tryz.prog Tryz.f4 false true false false):=by
 refine returnsInHanded_of_change_and (C:=Tryz.checked) (X:=fun w _=>laidMetH Tryz.prog laidAll w) (fun _ _ _ hh h=>h.of_heap hh) own started (by kernel_rfl) Tryz.func4
  (ChangeSpec.witness_shaped (enc:=enc) (C:=Tryz.checked) (os:=os) (X:=fun w _=>laidMetH Tryz.prog laidAll w) false (laidWorld os) #[.string ByteArray.empty] 8 (laidWorld_os _) (laidWorld_shaped os) (by kernel_rfl) (by kernel_rfl) (by kernel_rfl) (laidWorld_met os _)) ?_
 intro W base args ds gs before hval0 hW _ _ hL _
 have hval:∀(j:Nat) t v,Tryz.f4.params[j]?=some t→args[j]?=some v→Value.okWide Tryz.prog W .any base t v:=hval0
 have hW':=hW
 obtain ⟨p,q,hA0,hV,rfl,hfz,hnd⟩:=hW
 have hA:DataW.TrodAll enc Tryz.prog W 0 (fun _=>true) true Tryz.f4.params.toList args.toList ds p:=hA0
 rw [Tryz.params4] at hA hval
 obtain ⟨v0,d0,rfl,rfl,h0⟩:=trodAll_one hA
 obtain ⟨rfl,rfl⟩:=trodVars_none hV
 obtain ⟨a0,rfl,rfl,rfl,w0⟩:=open_string Tryz.underlying9 (hval 0 9 v0 rfl rfl) h0
 clear hA0 hval0
 simp only [List.append_nil] at hW'
 refine (pot_any a0 w0 (lib0_of hL)).mono fun e W' ⟨he,hg⟩=>?_
 subst he
 exact ⟨_,rfl,_,_,_,[],_,[],hW',trodAll_mk1 (shut_bool Tryz.underlying4 _),trodAll_mk1 (shut_string Tryz.underlying9 w0),rfl,hg.frame _,fun h=>by cases h⟩
theorem over:Rows.fnPlacesOfTokensRow.holds Tryz.pinned (OpenSpec.ofChange Rows.fnPlacesOfTokensSpec) :=
 OpenClaim.holds_of_wide 4 Tryz.f4 rfl rfl rfl rfl rfl rfl rfl ⟨rfl,rfl,rfl,rfl,rfl⟩ rfl rfl rfl rfl rfl (by kernel_rfl) Tryz.func4 (by kernel_rfl)
  (of_decide_eq_true (by kernel_rfl)) (by unfold Func.isWrapper;first|(rw [if_pos (by decide +kernel)];kernel_rfl)|(rw [if_neg (by decide +kernel)];exact ⟨rfl,rfl⟩))
  (fun os started H enc _=>lifted os started H enc)
/-- ████ THE STATEMENT ████ -/
theorem proved:Rows.FnPlacesOfTokensCardSaid :=
 Claim7.holds_tied_plain_at .later [] [.data,.data,.data,.data,.handle,.sentinel,.sentinel,.listed,.sentinel,.pinned] true (true,"05128834e9706628839b710431c63ece714b33c913076a224a2057ef2449d0f3") true
  over (fun _ h=>by cases h) (by kernel_rfl) (fun _ h=>by cases h) fnPlacesOfTokens_row_tie rfl ⟨rfl,rfl⟩ (by kernel_rfl) rfl
  (fun f fn hf hfn=>by
   obtain rfl:f=4:=Option.some.inj ((show Tryz.prog.funcNamed "pub-dabber/laws.FnPlacesOfTokens"=some 4 by kernel_rfl).symm.trans hf) |>.symm
   obtain rfl:fn=Tryz.f4:=(Option.some.inj (Tryz.func4.symm.trans hfn)).symm
   exact ⟨by kernel_rfl,fun j t ht=>by
    rw [Tryz.params4] at ht
    have hm:t∈[9]:=by simpa using Array.mem_of_getElem? ht
    have hall:([9].all fun u=>!Tryz.prog.wantsStandIn u)=true:=by kernel_rfl
    exact (show Tryz.prog.wantsStandIn t=false by simpa using List.all_eq_true.1 hall t hm)⟩)
  (by kernel_rfl)
#print axioms proved
end Go.Proofs.YtaamolahbkgofaaGreatDoor.fnPlacesOfTokens
