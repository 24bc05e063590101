/-
  The laws' function formed, walked: a token that has the form of its kind. Conditions: in the statements.
-/
import Derived.Test.YtaamolahbkgofaaGreatDoorK31
import Derived.Test.YtaamolahbkgofaaGreatDoorK06
import Derived.Deep.RegionHeld3
set_option linter.unusedVariables false
set_option linter.unusedSimpArgs false
namespace Go.Proofs.YtaamolahbkgofaaGreatDoor.lex
open Go.RowKit mem lines plain
section
variable {w:World} {S R T:ByteArray} {P F:Int} {cb:Option Addr} {cn cc:Nat} {fl:Bool}
set_option maxHeartbeats 2000000 in
set_option maxRecDepth 100000 in
theorem formed_eof (w:World):Calls Tryz.prog 19 #[.agg #[.string ⟨#[60,101,111,102,62]⟩,.string S,.string ⟨#[]⟩,.string ⟨#[]⟩,.int .i64 0,.int .i64 P,.int .i64 F,.slice cb cn cc],.bool fl] w (Yes w):=by
 go_enter Tryz.func19,Tryz.ntmps19
 go_wp2_with (go_at_call 16;refine (begins_any _ _ _ (by decide) (by decide)).mono ?_;rintro e w' ⟨rfl,rfl⟩)
 go_ret
 exact ⟨rfl,(Below.refl _ _).alloc (Nat.le_refl _) _⟩
set_option maxHeartbeats 2000000 in
set_option maxRecDepth 100000 in
theorem formed_quote (w:World) (hR:R.size≤20000) (h1:begB R ⟨#[96]⟩=true) (h2:2<R.size) (h3:endB R ⟨#[96]⟩=true) (h4:T.toList.isEmpty=false):Calls Tryz.prog 19 #[.agg #[.string ⟨#[60,105,100,101,110,116,62]⟩,.string S,.string R,.string T,.int .i64 0,.int .i64 P,.int .i64 F,.slice cb cn cc],.bool fl] w (Yes w):=by
 have h2':(2:Int)<(R.size:Int):=by omega
 go_enter Tryz.func19,Tryz.ntmps19
 go_wp2_with (first|(go_at_call 16;refine (begins_any _ _ _ (by omega) (by decide)).mono ?_;rintro e w' ⟨rfl,rfl⟩;rw [h1])|(go_at_call 15;refine (ends_any _ _ _ (by omega) (by decide)).mono ?_;rintro e w' ⟨rfl,rfl⟩;rw [h3]))
 go_ret
 exact ⟨rfl,(Below.refl _ _).alloc (Nat.le_refl _) _⟩
set_option maxHeartbeats 2000000 in
set_option maxRecDepth 100000 in
theorem formed_field (w:World) (hR:R.size≤20000) (h1:begB R ⟨#[96]⟩=false):Calls Tryz.prog 19 #[.agg #[.string ⟨#[60,105,100,101,110,116,62]⟩,.string S,.string R,.string R,.int .i64 0,.int .i64 P,.int .i64 F,.slice cb cn cc],.bool true] w (Yes w):=by
 go_enter Tryz.func19,Tryz.ntmps19
 go_wp2_with (first|(go_at_call 16;refine (begins_any _ _ _ (by omega) (by decide)).mono ?_;rintro e w' ⟨rfl,rfl⟩;rw [h1]))
 go_ret
 exact ⟨rfl,(Below.refl _ _).alloc (Nat.le_refl _) _⟩
set_option maxHeartbeats 2000000 in
set_option maxRecDepth 100000 in
theorem formed_word (w:World) (hR:R.size≤20000) (h1:begB R ⟨#[96]⟩=false) (h0:0<R.size) (hl:letZ R[0].toNat=true) (hw:∀j (hj:j<R.size),(letZ R[j].toNat||digZ R[j].toNat)=true) (hk:lx.keyword (R.data.toList.map up)=false):Calls Tryz.prog 19 #[.agg #[.string ⟨#[60,105,100,101,110,116,62]⟩,.string S,.string R,.string R,.int .i64 0,.int .i64 P,.int .i64 F,.slice cb cn cc],.bool fl] w (Yes w):=by
 have HW:=Lib.hid (fun W=>word_yes (s:=R) W (by omega) h0 hl hw)
 have HK:=Lib.hid (fun W=>impl_keyword_any R W (by omega))
 rw [hk] at HK
 clear hl hw
 cases fl
 all_goals
  go_enter Tryz.func19,Tryz.ntmps19
  go_wp2_with (first|(go_at_call 16;refine (begins_any _ _ _ (by omega) (by decide)).mono ?_;rintro e w' ⟨rfl,rfl⟩;rw [h1])|(go_at_call 34;refine (HW.out _).mono ?_;rintro e w' ⟨rfl,rfl⟩)|(go_at_call 17;refine (HK.out _).mono ?_;rintro e w2 ⟨rfl,hb2⟩;have HB2:=Lib.hid hb2;clear hb2))
  go_ret
  first
   | exact ⟨rfl,(Below.refl _ _).alloc (Nat.le_refl _) _⟩
   | exact ⟨rfl,((Below.refl _ _).alloc (Nat.le_refl _) _).trans (HB2.out.mono (by simp))⟩
set_option maxHeartbeats 2000000 in
set_option maxRecDepth 100000 in
theorem formed_param (w:World) (hR:R.size≤20000) (h1:begB R ⟨#[64]⟩=true) (h4:T.toList.isEmpty=false):Calls Tryz.prog 19 #[.agg #[.string ⟨#[60,112,97,114,97,109,62]⟩,.string S,.string R,.string T,.int .i64 0,.int .i64 P,.int .i64 F,.slice cb cn cc],.bool fl] w (Yes w):=by
 go_enter Tryz.func19,Tryz.ntmps19
 go_wp2_with (go_at_call 16;refine (begins_any _ _ _ (by omega) (by decide)).mono ?_;rintro e w' ⟨rfl,rfl⟩;try rw [h1])
 go_ret
 exact ⟨rfl,(Below.refl _ _).alloc (Nat.le_refl _) _⟩
set_option maxHeartbeats 2000000 in
set_option maxRecDepth 100000 in
theorem formed_float (w:World) (hR:R.size≤20000) (h0:1<R.size) (h1:digZ (R[0].toNat:Int)=true∨(R[0].toNat:Int)=46):Calls Tryz.prog 19 #[.agg #[.string ⟨#[60,102,108,111,97,116,62]⟩,.string S,.string R,.string ⟨#[]⟩,.int .i64 0,.int .i64 P,.int .i64 F,.slice cb cn cc],.bool fl] w (Yes w):=by
 have h0':(1:Int)<(R.size:Int):=by omega
 rcases h1 with h1|h1
 ·go_enter Tryz.func19,Tryz.ntmps19
  go_wp2_with (first|(go_at_call 16;refine (begins_any _ _ _ (by omega) (by decide)).mono ?_;rintro e w' ⟨rfl,rfl⟩)|(go_at_call 35;refine (digit_any _ _).mono ?_;rintro e w' ⟨rfl,rfl⟩;rw [h1]))
  go_ret
  exact ⟨rfl,(Below.refl _ _).alloc (Nat.le_refl _) _⟩
 ·have h2:digZ (R[0].toNat:Int)=false:=by rw [h1];decide
  go_enter Tryz.func19,Tryz.ntmps19
  go_wp2_with (first|(go_at_call 16;refine (begins_any _ _ _ (by omega) (by decide)).mono ?_;rintro e w' ⟨rfl,rfl⟩)|(go_at_call 35;refine (digit_any _ _).mono ?_;rintro e w' ⟨rfl,rfl⟩))
  go_ret
  exact ⟨rfl,(Below.refl _ _).alloc (Nat.le_refl _) _⟩
set_option maxHeartbeats 2000000 in
set_option maxRecDepth 100000 in
theorem formed_str {K:ByteArray} (w:World) (hR:R.size≤20000) (hK:K=⟨#[60,115,116,114,105,110,103,62]⟩∨K=⟨#[60,98,121,116,101,115,62]⟩) (h0:1<R.size) (h1:endB R ⟨#[39]⟩=true∨endB R ⟨#[34]⟩=true):Calls Tryz.prog 19 #[.agg #[.string K,.string S,.string R,.string T,.int .i64 0,.int .i64 P,.int .i64 F,.slice cb cn cc],.bool fl] w (Yes w):=by
 have h0':(1:Int)<(R.size:Int):=by omega
 have he:endB R ⟨#[39]⟩=true∨(endB R ⟨#[39]⟩=false∧endB R ⟨#[34]⟩=true):=by
  rcases h1 with h1|h1
  ·exact .inl h1
  ·cases h:endB R ⟨#[39]⟩ with
   | true=>exact .inl rfl
   | false=>exact .inr ⟨rfl,h1⟩
 clear h1
 rcases he with he1|⟨he1,he2⟩
 all_goals rcases hK with rfl|rfl
 all_goals
  go_enter Tryz.func19,Tryz.ntmps19
  go_wp2_with (first|(go_at_call 16;refine (begins_any _ _ _ (by omega) (by decide)).mono ?_;rintro e w' ⟨rfl,rfl⟩)|(go_at_call 15;refine (ends_any _ _ _ (by omega) (by decide)).mono ?_;rintro e w' ⟨rfl,rfl⟩;first|rw [he1]|rw [‹endB R ⟨#[34]⟩=true›]))
  go_ret
  exact ⟨rfl,(Below.refl _ _).alloc (Nat.le_refl _) _⟩
set_option maxHeartbeats 2000000 in
set_option maxRecDepth 100000 in
theorem formed_int10 (w:World) (hR:R.size≤20000) (h0:0<R.size) (h1:digZ (R[0].toNat:Int)=true) (h2:¬(1<R.size∧(R[0].toNat:Int)=48)):Calls Tryz.prog 19 #[.agg #[.string ⟨#[60,105,110,116,62]⟩,.string S,.string R,.string ⟨#[]⟩,.int .i64 10,.int .i64 P,.int .i64 F,.slice cb cn cc],.bool fl] w (Yes w):=by
 have h0':(0:Int)<(R.size:Int):=by omega
 have HD:Hid (∀W,Calls Tryz.prog 35 #[.int .u8 (R[0].toNat:Int)] W fun e w'=>e=.returned (.bool true)∧w'=W):=fun W=>by
  rw [←h1]
  exact (digit_any _ W).mono fun e w' h=>⟨h.1,h.2.symm⟩
 by_cases h3:1<R.size
 ·have h4:((R[0].toNat:Int)==48)=false:=by simp;omega
  have h3':(1:Int)<(R.size:Int):=by omega
  clear h2
  go_enter Tryz.func19,Tryz.ntmps19
  go_wp2_with (go_at_call 16;refine (begins_any _ _ _ (by omega) (by decide)).mono ?_;rintro e w' ⟨rfl,rfl⟩)
  go_quiet ((go_at_call 35;exact Calls.quiet_of_same (HD.out _)))
  go_wp2_with fail
  go_ret
  exact ⟨rfl,below_drewN ((Below.refl _ _).alloc (Nat.le_refl _) _) _⟩
 ·have h3':decide ((1:Int)<(R.size:Int))=false:=by simp;omega
  have h3'':decide (1<R.size)=false:=by simp;omega
  clear h2
  go_enter Tryz.func19,Tryz.ntmps19
  go_wp2_with (go_at_call 16;refine (begins_any _ _ _ (by omega) (by decide)).mono ?_;rintro e w' ⟨rfl,rfl⟩)
  go_quiet ((go_at_call 35;exact Calls.quiet_of_same (HD.out _)))
  go_wp2_with fail
  go_ret
  exact ⟨rfl,below_drewN ((Below.refl _ _).alloc (Nat.le_refl _) _) _⟩
end
end Go.Proofs.YtaamolahbkgofaaGreatDoor.lex
