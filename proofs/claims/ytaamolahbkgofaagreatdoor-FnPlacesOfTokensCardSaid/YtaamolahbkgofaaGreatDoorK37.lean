/-
  The laws' function formed, walked: integers in base 16 and with a leading 0, keywords, signs. Conditions: in the statements.
-/
import Derived.Test.YtaamolahbkgofaaGreatDoorK36
set_option linter.unusedVariables false
set_option linter.unusedSimpArgs false
namespace Go.Proofs.YtaamolahbkgofaaGreatDoor.lex
open Go.RowKit mem lines plain
section
variable {w:World} {S R T:ByteArray} {P F:Int} {cb:Option Addr} {cn cc:Nat} {fl:Bool}
/-- The cells of the token that formed reads in a region that draws its order. -/
theorem frm_S {W0 W:World} {y:Nat} {K S R T:ByteArray} {B P F:Int} {cv:Value} (h:W0.heap[y]?=some (.cells #[.string K,.string S,.string R,.string T,.int .i64 B,.int .i64 P,.int .i64 F,cv] 29 (0,0))) (hb:Hid (Below W0.heap.size W0 W)) :
  W.cell? ⟨y,0,none⟩=some (.string K)∧W.cell? ⟨y,2,none⟩=some (.string R)∧W.cell? ⟨y,3,none⟩=some (.string T)∧W.cell? ⟨y,4,none⟩=some (.int .i64 B)∧Hid (Below W0.heap.size W0 W):=by
 have h1:=(hb.out.block y (lt_of_heap h)).trans h
 exact ⟨cells_of_heap h1 0,cells_of_heap h1 2,cells_of_heap h1 3,cells_of_heap h1 4,hb⟩
set_option maxHeartbeats 2000000 in
set_option maxRecDepth 100000 in
theorem formed_int16 {U:ByteArray} (w:World) (hR:R.size≤20000) (h0:1<R.size) (h1:digZ (R[0].toNat:Int)=true) (h2:(R[0].toNat:Int)=48) (hU:∀W,Calls Tryz.prog 24 #[.string (R.extract 1 2)] W fun e w'=>e=.returned (.string U)∧Below W.heap.size W w') (hq:(U.toList==[88])=true):Calls Tryz.prog 19 #[.agg #[.string ⟨#[60,105,110,116,62]⟩,.string S,.string R,.string ⟨#[]⟩,.int .i64 16,.int .i64 P,.int .i64 F,.slice cb cn cc],.bool fl] w (Yes w):=by
 have h0':(1:Int)<(R.size:Int):=by omega
 have h00:(0:Int)<(R.size:Int):=by omega
 have h0N:0<R.size:=by omega
 have HD:Hid (∀W,Calls Tryz.prog 35 #[.int .u8 48] W fun e w'=>e=.returned (.bool true)∧W=w'):=fun W=>digit_any 48 W
 have HU:=Lib.hid hU
 have h4:((R[0].toNat:Int)==48)=true:=by rw [h2];rfl
 clear hU h1
 go_enter Tryz.func19,Tryz.ntmps19
 go_wp2_with (go_at_call 16;refine (begins_any _ _ _ (by omega) (by decide)).mono ?_;rintro e w' ⟨rfl,rfl⟩)
 have hnew:=heap_alloc_new w (.cells #[.string ⟨#[60,105,110,116,62]⟩,.string S,.string R,.string ⟨#[]⟩,.int .i64 16,.int .i64 P,.int .i64 F,.slice cb cn cc] 29)
 have hbel:=below_alloc w (.cells #[.string ⟨#[60,105,110,116,62]⟩,.string S,.string R,.string ⟨#[]⟩,.int .i64 16,.int .i64 P,.int .i64 F,.slice cb cn cc] 29)
 generalize w.alloc (.cells #[.string ⟨#[60,105,110,116,62]⟩,.string S,.string R,.string ⟨#[]⟩,.int .i64 16,.int .i64 P,.int .i64 F,.slice cb cn cc] 29)=W0 at hnew hbel ⊢
 obtain ⟨y,hy⟩:∃y,y=w.heap.size:=⟨_,rfl⟩
 rw [←hy] at hnew ⊢
 have HY:=Lib.hid hy
 clear hy
 have HBEL:=Lib.hid hbel
 have HNEW:=Lib.hid hnew
 have HR0:=Lib.hid (Below.refl W0.heap.size W0)
 have HR1:=Lib.hid (Below.refl W0.heap.size W0).drew
 obtain ⟨c0,c2,c3,c4,_⟩:=frm_S hnew HR0
 clear hbel hnew
 have hw1:(1:Int)≤(2:Int):=by decide
 have hw2:(2:Int)≤(R.size:Int):=by omega
 first
  | (go_region_held3 (fun W=>W.cell? ⟨y,0,none⟩=some (.string ⟨#[60,105,110,116,62]⟩)∧W.cell? ⟨y,2,none⟩=some (.string R)∧W.cell? ⟨y,3,none⟩=some (.string ⟨#[]⟩)∧W.cell? ⟨y,4,none⟩=some (.int .i64 16)∧Hid (Below W0.heap.size W0 W))
   (first|assumption|exact frm_S HNEW.out HR1|exact frm_S HNEW.out HR0|exact frm_S HNEW.out (Lib.hid ((‹_∧_∧_∧_∧Hid (Below _ _ _)›).2.2.2.2.out.trans ((‹Hid (Below _ _ _)›:Hid (Below _ _ _)).out.mono ((‹_∧_∧_∧_∧Hid (Below _ _ _)›).2.2.2.2.out.size))))|exact frm_S HNEW.out (Lib.hid (below_drewN (‹_∧_∧_∧_∧Hid (Below _ _ _)›).2.2.2.2.out _)))
   (first|(go_at_call 35;refine (HD.out _).mono ?_;rintro e w4 ⟨rfl,rfl⟩)|(go_at_call 24;refine (HU.out _).mono ?_;rintro e w4 ⟨rfl,hb⟩;have HB:=Lib.hid hb;clear hb)))
  | fail
 go_wp2_with fail
 go_ret
 exact ⟨rfl,by have h:=(‹_∧_∧_∧_∧Hid (Below _ _ _)›).2.2.2.2.out;have h2:=HBEL.out.size;exact HBEL.out.trans (h.mono h2)⟩
set_option maxHeartbeats 2000000 in
set_option maxRecDepth 100000 in
theorem formed_int10x {U:ByteArray} (w:World) (hR:R.size≤20000) (h0:1<R.size) (h1:digZ (R[0].toNat:Int)=true) (h2:(R[0].toNat:Int)=48) (hU:∀W,Calls Tryz.prog 24 #[.string (R.extract 1 2)] W fun e w'=>e=.returned (.string U)∧Below W.heap.size W w') (hq:(U.toList==[88])=false):Calls Tryz.prog 19 #[.agg #[.string ⟨#[60,105,110,116,62]⟩,.string S,.string R,.string ⟨#[]⟩,.int .i64 10,.int .i64 P,.int .i64 F,.slice cb cn cc],.bool fl] w (Yes w):=by
 have h0':(1:Int)<(R.size:Int):=by omega
 have h00:(0:Int)<(R.size:Int):=by omega
 have h0N:0<R.size:=by omega
 have HD:Hid (∀W,Calls Tryz.prog 35 #[.int .u8 48] W fun e w'=>e=.returned (.bool true)∧W=w'):=fun W=>digit_any 48 W
 have HU:=Lib.hid hU
 have h4:((R[0].toNat:Int)==48)=true:=by rw [h2];rfl
 clear hU h1
 go_enter Tryz.func19,Tryz.ntmps19
 go_wp2_with (go_at_call 16;refine (begins_any _ _ _ (by omega) (by decide)).mono ?_;rintro e w' ⟨rfl,rfl⟩)
 have hnew:=heap_alloc_new w (.cells #[.string ⟨#[60,105,110,116,62]⟩,.string S,.string R,.string ⟨#[]⟩,.int .i64 10,.int .i64 P,.int .i64 F,.slice cb cn cc] 29)
 have hbel:=below_alloc w (.cells #[.string ⟨#[60,105,110,116,62]⟩,.string S,.string R,.string ⟨#[]⟩,.int .i64 10,.int .i64 P,.int .i64 F,.slice cb cn cc] 29)
 generalize w.alloc (.cells #[.string ⟨#[60,105,110,116,62]⟩,.string S,.string R,.string ⟨#[]⟩,.int .i64 10,.int .i64 P,.int .i64 F,.slice cb cn cc] 29)=W0 at hnew hbel ⊢
 obtain ⟨y,hy⟩:∃y,y=w.heap.size:=⟨_,rfl⟩
 rw [←hy] at hnew ⊢
 have HY:=Lib.hid hy
 clear hy
 have HBEL:=Lib.hid hbel
 have HNEW:=Lib.hid hnew
 have HR0:=Lib.hid (Below.refl W0.heap.size W0)
 have HR1:=Lib.hid (Below.refl W0.heap.size W0).drew
 obtain ⟨c0,c2,c3,c4,_⟩:=frm_S hnew HR0
 clear hbel hnew
 have hw1:(1:Int)≤(2:Int):=by decide
 have hw2:(2:Int)≤(R.size:Int):=by omega
 refine wp_region_held_drew (S:=(fun W=>W.cell? ⟨y,0,none⟩=some (.string ⟨#[60,105,110,116,62]⟩)∧W.cell? ⟨y,2,none⟩=some (.string R)∧W.cell? ⟨y,3,none⟩=some (.string ⟨#[]⟩)∧W.cell? ⟨y,4,none⟩=some (.int .i64 10)∧Hid (Below W0.heap.size W0 W))) (by kernel_rfl) (frm_S HNEW.out HR1) (fun hHeld=>?_)
 refine wpAnyH_take (i:=0) (v:=?v0x) rfl (by kernel_rfl) (by kernel_rfl) (by kernel_rfl) (fun _ _ _ h=>h) (Or.inl ⟨by rfl, ?hy0x⟩) (by assumption) ?r0x
 case hy0x=>(intro w hSw;(try dsimp only at hSw);go_simp;try with_reducible rfl)
 try simp only [Act.put,List.getElem_toArray,List.getElem_cons_zero,List.getElem_cons_succ,List.setIfInBounds_toArray,List.set_cons_zero,List.set_cons_succ]
 refine wpAnyH_take (i:=1) (v:=?v1x) rfl (by kernel_rfl) (by kernel_rfl) (by kernel_rfl) (fun _ _ _ h=>h) (Or.inl ⟨by rfl, ?hy1x⟩) (by assumption) ?r1x
 case hy1x=>(intro w hSw;(try dsimp only at hSw);go_simp;try with_reducible rfl)
 try simp only [Act.put,List.getElem_toArray,List.getElem_cons_zero,List.getElem_cons_succ,List.setIfInBounds_toArray,List.set_cons_zero,List.set_cons_succ]
 refine wpAnyH_take (i:=2) (v:=?v2x) rfl (by kernel_rfl) (by kernel_rfl) (by kernel_rfl) (fun _ _ _ h=>h) (Or.inl ⟨by rfl, ?hy2x⟩) (by assumption) ?r2x
 case hy2x=>(intro w hSw;(try dsimp only at hSw);go_simp;try with_reducible rfl)
 try simp only [Act.put,List.getElem_toArray,List.getElem_cons_zero,List.getElem_cons_succ,List.setIfInBounds_toArray,List.set_cons_zero,List.set_cons_succ]
 refine wpAnyH_take (i:=3) (v:=?v3x) rfl (by kernel_rfl) (by kernel_rfl) (by kernel_rfl) (fun _ _ _ h=>h) (Or.inl ⟨by rfl, ?hy3x⟩) (by assumption) ?r3x
 case hy3x=>(intro w hSw;(try dsimp only at hSw);go_simp;try with_reducible rfl)
 try simp only [Act.put,List.getElem_toArray,List.getElem_cons_zero,List.getElem_cons_succ,List.setIfInBounds_toArray,List.set_cons_zero,List.set_cons_succ]
 refine wpAnyH_take (i:=4) (v:=?v4x) rfl (by kernel_rfl) (by kernel_rfl) (by kernel_rfl) (fun _ _ _ h=>h) (Or.inl ⟨by rfl, ?hy4x⟩) (by assumption) ?r4x
 case hy4x=>(intro w hSw;(try dsimp only at hSw);go_simp;try with_reducible rfl)
 try simp only [Act.put,List.getElem_toArray,List.getElem_cons_zero,List.getElem_cons_succ,List.setIfInBounds_toArray,List.set_cons_zero,List.set_cons_succ]
 refine wpAnyH_take (i:=5) (v:=?v5x) rfl (by kernel_rfl) (by kernel_rfl) (by kernel_rfl) (fun _ _ _ h=>h) (Or.inl ⟨by rfl, ?hy5x⟩) (by assumption) ?r5x
 case hy5x=>(intro w hSw;(try dsimp only at hSw);go_simp;try with_reducible rfl)
 try simp only [Act.put,List.getElem_toArray,List.getElem_cons_zero,List.getElem_cons_succ,List.setIfInBounds_toArray,List.set_cons_zero,List.set_cons_succ]
 refine wpAnyH_take (i:=6) (v:=?v6x) rfl (by kernel_rfl) (by kernel_rfl) (by kernel_rfl) (fun _ _ _ h=>h) (Or.inl ⟨by rfl, ?hy6x⟩) (by assumption) ?r6x
 case hy6x=>(intro w hSw;(try dsimp only at hSw);go_simp;try with_reducible rfl)
 try simp only [Act.put,List.getElem_toArray,List.getElem_cons_zero,List.getElem_cons_succ,List.setIfInBounds_toArray,List.set_cons_zero,List.set_cons_succ]
 refine wpAnyH_take (i:=7) (v:=?v7x) rfl (by kernel_rfl) (by kernel_rfl) (by kernel_rfl) (fun _ _ _ h=>h) (Or.inl ⟨by rfl, ?hy7x⟩) (by assumption) ?r7x
 case hy7x=>(intro w hSw;(try dsimp only at hSw);go_simp;try with_reducible rfl)
 try simp only [Act.put,List.getElem_toArray,List.getElem_cons_zero,List.getElem_cons_succ,List.setIfInBounds_toArray,List.set_cons_zero,List.set_cons_succ]
 refine wpAnyH_take (i:=8) (v:=?v8x) rfl (by kernel_rfl) (by kernel_rfl) (by kernel_rfl) (fun _ _ _ h=>h) (Or.inl ⟨by rfl, ?hy8x⟩) (by assumption) ?r8x
 case hy8x=>(intro w hSw;(try dsimp only at hSw);go_simp;try with_reducible rfl)
 try simp only [Act.put,List.getElem_toArray,List.getElem_cons_zero,List.getElem_cons_succ,List.setIfInBounds_toArray,List.set_cons_zero,List.set_cons_succ]
 refine wpAnyH_take (i:=9) (v:=?v9x) rfl (by kernel_rfl) (by kernel_rfl) (by kernel_rfl) (fun _ _ _ h=>h) (Or.inl ⟨by rfl, ?hy9x⟩) (by assumption) ?r9x
 case hy9x=>(intro w hSw;(try dsimp only at hSw);go_simp;try with_reducible rfl)
 try simp only [Act.put,List.getElem_toArray,List.getElem_cons_zero,List.getElem_cons_succ,List.setIfInBounds_toArray,List.set_cons_zero,List.set_cons_succ]
 refine wpAnyH_take (i:=10) (v:=?v10x) rfl (by kernel_rfl) (by kernel_rfl) (by kernel_rfl) (fun _ _ _ h=>h) (Or.inl ⟨by rfl, ?hy10x⟩) (by assumption) ?r10x
 case hy10x=>(intro w hSw;(try dsimp only at hSw);go_simp;try with_reducible rfl)
 try simp only [Act.put,List.getElem_toArray,List.getElem_cons_zero,List.getElem_cons_succ,List.setIfInBounds_toArray,List.set_cons_zero,List.set_cons_succ]
 refine wpAnyH_take (i:=11) (v:=?v11x) rfl (by kernel_rfl) (by kernel_rfl) (by kernel_rfl) (fun _ _ _ h=>h) (Or.inl ⟨by rfl, ?hy11x⟩) (by assumption) ?r11x
 case hy11x=>(intro w hSw;(try dsimp only at hSw);go_simp;try with_reducible rfl)
 try simp only [Act.put,List.getElem_toArray,List.getElem_cons_zero,List.getElem_cons_succ,List.setIfInBounds_toArray,List.set_cons_zero,List.set_cons_succ]
 refine wpAnyH_take (i:=12) (v:=?v12x) rfl (by kernel_rfl) (by kernel_rfl) (by kernel_rfl) (fun _ _ _ h=>h) (Or.inl ⟨by rfl, ?hy12x⟩) (by assumption) ?r12x
 case hy12x=>(intro w hSw;(try dsimp only at hSw);go_simp;try with_reducible rfl)
 try simp only [Act.put,List.getElem_toArray,List.getElem_cons_zero,List.getElem_cons_succ,List.setIfInBounds_toArray,List.set_cons_zero,List.set_cons_succ]
 refine wpAnyH_ready (rs:=[13]) (by kernel_rfl) (by simp) ?_
 refine AllReadyH.cons rfl (fun K hK=>?_) AllReadyH.nil
 go_simp
 go_at_call 35
 refine (HD.out _).mono ?_
 rintro e w4 ⟨rfl,rfl⟩
 refine hK.out _ _ hHeld (fun hHeld=>?_)
 clear hK K
 try simp only [Act.put,List.getElem_toArray,List.getElem_cons_zero,List.getElem_cons_succ,List.setIfInBounds_toArray,List.set_cons_zero,List.set_cons_succ]
 refine wpAnyH_take (i:=14) (v:=?v14x) rfl (by kernel_rfl) (by kernel_rfl) (by kernel_rfl) (fun _ _ _ h=>h) (Or.inl ⟨by rfl, ?hy14x⟩) (by assumption) ?r14x
 case hy14x=>(intro w hSw;(try dsimp only at hSw);go_simp;try with_reducible rfl)
 try simp only [Act.put,List.getElem_toArray,List.getElem_cons_zero,List.getElem_cons_succ,List.setIfInBounds_toArray,List.set_cons_zero,List.set_cons_succ]
 refine wpAnyH_take (i:=15) (v:=?v15x) rfl (by kernel_rfl) (by kernel_rfl) (by kernel_rfl) (fun _ _ _ h=>h) (Or.inl ⟨by rfl, ?hy15x⟩) (by assumption) ?r15x
 case hy15x=>(intro w hSw;(try dsimp only at hSw);go_simp;try with_reducible rfl)
 try simp only [Act.put,List.getElem_toArray,List.getElem_cons_zero,List.getElem_cons_succ,List.setIfInBounds_toArray,List.set_cons_zero,List.set_cons_succ]
 refine wpAnyH_take (i:=16) (v:=?v16x) rfl (by kernel_rfl) (by kernel_rfl) (by kernel_rfl) (fun _ _ _ h=>h) (Or.inl ⟨by rfl, ?hy16x⟩) (by assumption) ?r16x
 case hy16x=>(intro w hSw;(try dsimp only at hSw);go_simp;try with_reducible rfl)
 try simp only [Act.put,List.getElem_toArray,List.getElem_cons_zero,List.getElem_cons_succ,List.setIfInBounds_toArray,List.set_cons_zero,List.set_cons_succ]
 refine wpAnyH_take (i:=17) (v:=?v17x) rfl (by kernel_rfl) (by kernel_rfl) (by kernel_rfl) (fun _ _ _ h=>h) (Or.inl ⟨by rfl, ?hy17x⟩) (by assumption) ?r17x
 case hy17x=>(intro w hSw;(try dsimp only at hSw);go_simp;try with_reducible rfl)
 try simp only [Act.put,List.getElem_toArray,List.getElem_cons_zero,List.getElem_cons_succ,List.setIfInBounds_toArray,List.set_cons_zero,List.set_cons_succ]
 refine wpAnyH_take (i:=18) (v:=?v18x) rfl (by kernel_rfl) (by kernel_rfl) (by kernel_rfl) (fun _ _ _ h=>h) (Or.inl ⟨by rfl, ?hy18x⟩) (by assumption) ?r18x
 case hy18x=>(intro w hSw;(try dsimp only at hSw);go_simp;try with_reducible rfl)
 try simp only [Act.put,List.getElem_toArray,List.getElem_cons_zero,List.getElem_cons_succ,List.setIfInBounds_toArray,List.set_cons_zero,List.set_cons_succ]
 refine wpAnyH_take (i:=19) (v:=?v19x) rfl (by kernel_rfl) (by kernel_rfl) (by kernel_rfl) (fun _ _ _ h=>h) (Or.inl ⟨by rfl, ?hy19x⟩) (by assumption) ?r19x
 case hy19x=>(intro w hSw;(try dsimp only at hSw);go_simp;try with_reducible rfl)
 try simp only [Act.put,List.getElem_toArray,List.getElem_cons_zero,List.getElem_cons_succ,List.setIfInBounds_toArray,List.set_cons_zero,List.set_cons_succ]
 refine wpAnyH_take (i:=20) (v:=?v20x) rfl (by kernel_rfl) (by kernel_rfl) (by kernel_rfl) (fun _ _ _ h=>h) (Or.inl ⟨by rfl, ?hy20x⟩) (by assumption) ?r20x
 case hy20x=>(intro w hSw;(try dsimp only at hSw);go_simp;try with_reducible rfl)
 try simp only [Act.put,List.getElem_toArray,List.getElem_cons_zero,List.getElem_cons_succ,List.setIfInBounds_toArray,List.set_cons_zero,List.set_cons_succ]
 refine wpAnyH_take (i:=21) (v:=?v21x) rfl (by kernel_rfl) (by kernel_rfl) (by kernel_rfl) (fun _ _ _ h=>h) (Or.inl ⟨by rfl, ?hy21x⟩) (by assumption) ?r21x
 case hy21x=>(intro w hSw;(try dsimp only at hSw);go_simp;try with_reducible rfl)
 try simp only [Act.put,List.getElem_toArray,List.getElem_cons_zero,List.getElem_cons_succ,List.setIfInBounds_toArray,List.set_cons_zero,List.set_cons_succ]
 refine wpAnyH_take (i:=22) (v:=?v22x) rfl (by kernel_rfl) (by kernel_rfl) (by kernel_rfl) (fun _ _ _ h=>h) (Or.inl ⟨by rfl, ?hy22x⟩) (by assumption) ?r22x
 case hy22x=>(intro w hSw;(try dsimp only at hSw);go_simp;try with_reducible rfl)
 try simp only [Act.put,List.getElem_toArray,List.getElem_cons_zero,List.getElem_cons_succ,List.setIfInBounds_toArray,List.set_cons_zero,List.set_cons_succ]
 refine wpAnyH_take (i:=23) (v:=?v23x) rfl (by kernel_rfl) (by kernel_rfl) (by kernel_rfl) (fun _ _ _ h=>h) (Or.inl ⟨by rfl, ?hy23x⟩) (by assumption) ?r23x
 case hy23x=>(intro w hSw;(try dsimp only at hSw);go_simp;try with_reducible rfl)
 try simp only [Act.put,List.getElem_toArray,List.getElem_cons_zero,List.getElem_cons_succ,List.setIfInBounds_toArray,List.set_cons_zero,List.set_cons_succ]
 refine wpAnyH_take (i:=24) (v:=?v24x) rfl (by kernel_rfl) (by kernel_rfl) (by kernel_rfl) (fun _ _ _ h=>h) (Or.inl ⟨by rfl, ?hy24x⟩) (by assumption) ?r24x
 case hy24x=>(intro w hSw;(try dsimp only at hSw);go_simp;try with_reducible rfl)
 try simp only [Act.put,List.getElem_toArray,List.getElem_cons_zero,List.getElem_cons_succ,List.setIfInBounds_toArray,List.set_cons_zero,List.set_cons_succ]
 refine wpAnyH_take (i:=25) (v:=?v25x) rfl (by kernel_rfl) (by kernel_rfl) (by kernel_rfl) (fun _ _ _ h=>h) (Or.inl ⟨by rfl, ?hy25x⟩) (by assumption) ?r25x
 case hy25x=>(intro w hSw;(try dsimp only at hSw);go_simp;try with_reducible rfl)
 try simp only [Act.put,List.getElem_toArray,List.getElem_cons_zero,List.getElem_cons_succ,List.setIfInBounds_toArray,List.set_cons_zero,List.set_cons_succ]
 refine wpAnyH_take (i:=26) (v:=?v26x) rfl (by kernel_rfl) (by kernel_rfl) (by kernel_rfl) (fun _ _ _ h=>h) (Or.inl ⟨by rfl, ?hy26x⟩) (by assumption) ?r26x
 case hy26x=>(intro w hSw;(try dsimp only at hSw);go_simp;try with_reducible rfl)
 try simp only [Act.put,List.getElem_toArray,List.getElem_cons_zero,List.getElem_cons_succ,List.setIfInBounds_toArray,List.set_cons_zero,List.set_cons_succ]
 refine wpAnyH_take (i:=27) (v:=?v27x) rfl (by kernel_rfl) (by kernel_rfl) (by kernel_rfl) (fun _ _ _ h=>h) (Or.inl ⟨by rfl, ?hy27x⟩) (by assumption) ?r27x
 case hy27x=>(intro w hSw;(try dsimp only at hSw);go_simp;try with_reducible rfl)
 try simp only [Act.put,List.getElem_toArray,List.getElem_cons_zero,List.getElem_cons_succ,List.setIfInBounds_toArray,List.set_cons_zero,List.set_cons_succ]
 refine wpAnyH_take (i:=28) (v:=?v28x) rfl (by kernel_rfl) (by kernel_rfl) (by kernel_rfl) (fun _ _ _ h=>h) (Or.inl ⟨by rfl, ?hy28x⟩) (by assumption) ?r28x
 case hy28x=>(intro w hSw;(try dsimp only at hSw);go_simp;try with_reducible rfl)
 try simp only [Act.put,List.getElem_toArray,List.getElem_cons_zero,List.getElem_cons_succ,List.setIfInBounds_toArray,List.set_cons_zero,List.set_cons_succ]
 refine wpAnyH_take (i:=29) (v:=?v29x) rfl (by kernel_rfl) (by kernel_rfl) (by kernel_rfl) (fun _ _ _ h=>h) (Or.inl ⟨by rfl, ?hy29x⟩) (by assumption) ?r29x
 case hy29x=>(intro w hSw;(try dsimp only at hSw);go_simp;try with_reducible rfl)
 try simp only [Act.put,List.getElem_toArray,List.getElem_cons_zero,List.getElem_cons_succ,List.setIfInBounds_toArray,List.set_cons_zero,List.set_cons_succ]
 refine wpAnyH_take (i:=30) (v:=?v30x) rfl (by kernel_rfl) (by kernel_rfl) (by kernel_rfl) (fun _ _ _ h=>h) (Or.inl ⟨by rfl, ?hy30x⟩) (by assumption) ?r30x
 case hy30x=>(intro w hSw;(try dsimp only at hSw);go_simp;try with_reducible rfl)
 try simp only [Act.put,List.getElem_toArray,List.getElem_cons_zero,List.getElem_cons_succ,List.setIfInBounds_toArray,List.set_cons_zero,List.set_cons_succ]
 refine wpAnyH_take (i:=31) (v:=?v31x) rfl (by kernel_rfl) (by kernel_rfl) (by kernel_rfl) (fun _ _ _ h=>h) (Or.inl ⟨by rfl, ?hy31x⟩) (by assumption) ?r31x
 case hy31x=>(intro w hSw;(try dsimp only at hSw);go_simp;try with_reducible rfl)
 try simp only [Act.put,List.getElem_toArray,List.getElem_cons_zero,List.getElem_cons_succ,List.setIfInBounds_toArray,List.set_cons_zero,List.set_cons_succ]
 refine wpAnyH_take (i:=32) (v:=?v32x) rfl (by kernel_rfl) (by kernel_rfl) (by kernel_rfl) (fun _ _ _ h=>h) (Or.inl ⟨by rfl, ?hy32x⟩) (by assumption) ?r32x
 case hy32x=>(intro w hSw;(try dsimp only at hSw);go_simp;try with_reducible rfl)
 try simp only [Act.put,List.getElem_toArray,List.getElem_cons_zero,List.getElem_cons_succ,List.setIfInBounds_toArray,List.set_cons_zero,List.set_cons_succ]
 refine wpAnyH_ready (rs:=[33]) (by kernel_rfl) (by simp) ?_
 refine AllReadyH.cons rfl (fun K hK=>?_) AllReadyH.nil
 go_simp
 go_at_call 24
 refine (HU.out _).mono ?_
 rintro e w4 ⟨rfl,hb⟩
 have HB:=Lib.hid (hHeld.2.2.2.2.out.trans (hb.mono hHeld.2.2.2.2.out.size))
 clear hb
 refine hK.out _ _ (frm_S HNEW.out HB) (fun hHeld=>?_)
 clear hK K
 try simp only [Act.put,List.getElem_toArray,List.getElem_cons_zero,List.getElem_cons_succ,List.setIfInBounds_toArray,List.set_cons_zero,List.set_cons_succ]
 refine wpAnyH_take (i:=34) (v:=?v34x) rfl (by kernel_rfl) (by kernel_rfl) (by kernel_rfl) (fun _ _ _ h=>h) (Or.inl ⟨by rfl, ?hy34x⟩) (by assumption) ?r34x
 case hy34x=>(intro w hSw;(try dsimp only at hSw);go_simp;try with_reducible rfl)
 try simp only [Act.put,List.getElem_toArray,List.getElem_cons_zero,List.getElem_cons_succ,List.setIfInBounds_toArray,List.set_cons_zero,List.set_cons_succ]
 refine wpAnyH_take (i:=35) (v:=?v35x) rfl (by kernel_rfl) (by kernel_rfl) (by kernel_rfl) (fun _ _ _ h=>h) (Or.inl ⟨by rfl, ?hy35x⟩) (by assumption) ?r35x
 case hy35x=>(intro w hSw;(try dsimp only at hSw);go_simp;try with_reducible rfl)
 try simp only [Act.put,List.getElem_toArray,List.getElem_cons_zero,List.getElem_cons_succ,List.setIfInBounds_toArray,List.set_cons_zero,List.set_cons_succ]
 refine wpAnyH_take (i:=36) (v:=?v36x) rfl (by kernel_rfl) (by kernel_rfl) (by kernel_rfl) (fun _ _ _ h=>h) (Or.inl ⟨by rfl, ?hy36x⟩) (by assumption) ?r36x
 case hy36x=>(intro w hSw;(try dsimp only at hSw);go_simp;try with_reducible rfl)
 try simp only [Act.put,List.getElem_toArray,List.getElem_cons_zero,List.getElem_cons_succ,List.setIfInBounds_toArray,List.set_cons_zero,List.set_cons_succ]
 refine wpAnyH_take (i:=37) (v:=?v37x) rfl (by kernel_rfl) (by kernel_rfl) (by kernel_rfl) (fun _ _ _ h=>h) (Or.inl ⟨by rfl, ?hy37x⟩) (by assumption) ?r37x
 case hy37x=>(intro w hSw;(try dsimp only at hSw);go_simp;try with_reducible rfl)
 try simp only [Act.put,List.getElem_toArray,List.getElem_cons_zero,List.getElem_cons_succ,List.setIfInBounds_toArray,List.set_cons_zero,List.set_cons_succ]
 refine wpAnyH_take (i:=38) (v:=?v38x) rfl (by kernel_rfl) (by kernel_rfl) (by kernel_rfl) (fun _ _ _ h=>h) (Or.inl ⟨by rfl, ?hy38x⟩) (by assumption) ?r38x
 case hy38x=>(intro w hSw;(try dsimp only at hSw);go_simp;try with_reducible rfl)
 try simp only [Act.put,List.getElem_toArray,List.getElem_cons_zero,List.getElem_cons_succ,List.setIfInBounds_toArray,List.set_cons_zero,List.set_cons_succ]
 refine wpAnyH_take (i:=39) (v:=?v39x) rfl (by kernel_rfl) (by kernel_rfl) (by kernel_rfl) (fun _ _ _ h=>h) (Or.inl ⟨by rfl, ?hy39x⟩) (by assumption) ?r39x
 case hy39x=>(intro w hSw;(try dsimp only at hSw);go_simp;try with_reducible rfl)
 try simp only [Act.put,List.getElem_toArray,List.getElem_cons_zero,List.getElem_cons_succ,List.setIfInBounds_toArray,List.set_cons_zero,List.set_cons_succ]
 refine wpAnyH_take (i:=40) (v:=?v40x) rfl (by kernel_rfl) (by kernel_rfl) (by kernel_rfl) (fun _ _ _ h=>h) (Or.inl ⟨by rfl, ?hy40x⟩) (by assumption) ?r40x
 case hy40x=>(intro w hSw;(try dsimp only at hSw);go_simp;try with_reducible rfl)
 try simp only [Act.put,List.getElem_toArray,List.getElem_cons_zero,List.getElem_cons_succ,List.setIfInBounds_toArray,List.set_cons_zero,List.set_cons_succ]
 refine wpAnyH_take (i:=41) (v:=?v41x) rfl (by kernel_rfl) (by kernel_rfl) (by kernel_rfl) (fun _ _ _ h=>h) (Or.inl ⟨by rfl, ?hy41x⟩) (by assumption) ?r41x
 case hy41x=>(intro w hSw;(try dsimp only at hSw);go_simp;try with_reducible rfl)
 try simp only [Act.put,List.getElem_toArray,List.getElem_cons_zero,List.getElem_cons_succ,List.setIfInBounds_toArray,List.set_cons_zero,List.set_cons_succ]
 refine wpAnyH_take (i:=42) (v:=?v42x) rfl (by kernel_rfl) (by kernel_rfl) (by kernel_rfl) (fun _ _ _ h=>h) (Or.inl ⟨by rfl, ?hy42x⟩) (by assumption) ?r42x
 case hy42x=>(intro w hSw;(try dsimp only at hSw);go_simp;try with_reducible rfl)
 try simp only [Act.put,List.getElem_toArray,List.getElem_cons_zero,List.getElem_cons_succ,List.setIfInBounds_toArray,List.set_cons_zero,List.set_cons_succ]
 refine wpAnyH_take (i:=43) (v:=undef) rfl (by kernel_rfl) (by kernel_rfl) (by kernel_rfl) (fun _ _ _ h=>h) (Or.inr ⟨by rfl,rfl⟩) (by assumption) ?u43x
 try simp only [Act.put,List.getElem_toArray,List.getElem_cons_zero,List.getElem_cons_succ,List.setIfInBounds_toArray,List.set_cons_zero,List.set_cons_succ]
 refine wpAnyH_take (i:=44) (v:=undef) rfl (by kernel_rfl) (by kernel_rfl) (by kernel_rfl) (fun _ _ _ h=>h) (Or.inr ⟨by rfl,rfl⟩) (by assumption) ?u44x
 try simp only [Act.put,List.getElem_toArray,List.getElem_cons_zero,List.getElem_cons_succ,List.setIfInBounds_toArray,List.set_cons_zero,List.set_cons_succ]
 refine wpAnyH_take (i:=45) (v:=undef) rfl (by kernel_rfl) (by kernel_rfl) (by kernel_rfl) (fun _ _ _ h=>h) (Or.inr ⟨by rfl,rfl⟩) (by assumption) ?u45x
 try simp only [Act.put,List.getElem_toArray,List.getElem_cons_zero,List.getElem_cons_succ,List.setIfInBounds_toArray,List.set_cons_zero,List.set_cons_succ]
 refine wpAnyH_take (i:=46) (v:=?v46x) rfl (by kernel_rfl) (by kernel_rfl) (by kernel_rfl) (fun _ _ _ h=>h) (Or.inl ⟨by rfl, ?hy46x⟩) (by assumption) ?r46x
 case hy46x=>(intro w hSw;(try dsimp only at hSw);go_simp;try with_reducible rfl)
 try simp only [Act.put,List.getElem_toArray,List.getElem_cons_zero,List.getElem_cons_succ,List.setIfInBounds_toArray,List.set_cons_zero,List.set_cons_succ]
 refine wpAnyH_take (i:=47) (v:=?v47x) rfl (by kernel_rfl) (by kernel_rfl) (by kernel_rfl) (fun _ _ _ h=>h) (Or.inl ⟨by rfl, ?hy47x⟩) (by assumption) ?r47x
 case hy47x=>(intro w hSw;(try dsimp only at hSw);go_simp;try with_reducible rfl)
 try simp only [Act.put,List.getElem_toArray,List.getElem_cons_zero,List.getElem_cons_succ,List.setIfInBounds_toArray,List.set_cons_zero,List.set_cons_succ]
 refine wpAnyH_take (i:=48) (v:=?v48x) rfl (by kernel_rfl) (by kernel_rfl) (by kernel_rfl) (fun _ _ _ h=>h) (Or.inl ⟨by rfl, ?hy48x⟩) (by assumption) ?r48x
 case hy48x=>(intro w hSw;(try dsimp only at hSw);go_simp;try with_reducible rfl)
 try simp only [Act.put,List.getElem_toArray,List.getElem_cons_zero,List.getElem_cons_succ,List.setIfInBounds_toArray,List.set_cons_zero,List.set_cons_succ]
 refine wpAnyH_done (by kernel_rfl) ?_ _
 go_wp2_with fail
 go_ret
 exact ⟨rfl,by have h:=(‹_∧_∧_∧_∧Hid (Below _ _ _)›).2.2.2.2.out;have h2:=HBEL.out.size;exact HBEL.out.trans (h.mono h2)⟩
end
end Go.Proofs.YtaamolahbkgofaaGreatDoor.lex
