/-
  Contract of strconv.ParseUint at the bases 16 and 8, over short texts. Conditions: in its statement.
-/
import Derived.Test.YtaamolahbkgofaaGreatDoorK03
import Derived.Lib.ConvBytes
import Derived.Laws.Closers25
import Derived.Laws.Closers25b
import Derived.Lib.Strings
import Derived.Lib.AtoiAllMem
import Derived.Lib.IfaceEq
namespace Go.Proofs.YtaamolahbkgofaaGreatDoor.lex
open Go.RowKit mem lines
/-- Whether a byte is a digit of a base. -/
def digB (base:Nat) (c:UInt8):Bool:=if base=16 then lx.hex c else lx.oct c
/-- A byte that is no decimal digit, with the bit 32 set. -/
def LowOf (c:UInt8) (v:Int):Prop :=
 (97≤v∧v≤102∧lx.hex c=true∧(lx.hexVal c:Int)=v-87)∨(103≤v∧v≤122∧lx.hex c=false)∨((v<97∨122<v)∧lx.hex c=false)
instance (c:UInt8) (v:Int):Decidable (LowOf c v):=by unfold LowOf;infer_instance
theorem low_tab:∀n:Fin 256,(48≤n.val∧n.val≤57)∨LowOf (UInt8.ofNat n.val) (bits .or .u8 (n.val:Int) 32):=by decide +kernel
theorem low_of (c:UInt8) (h:¬(48≤c.toNat∧c.toNat≤57)):LowOf c (bits .or .u8 (c.toNat:Int) 32):=by
 have k:=low_tab ⟨c.toNat,c.toNat_lt⟩
 rcases k with k|k
 ·exact absurd k h
 ·simpa using k
theorem digits_snoc (b:Nat):∀(l:lx.Bs) (v:Nat) (c:UInt8),lx.digits b v (l++[c])=lx.digits b v l*b+lx.hexVal c
 | [],v,c=>rfl
 | d::l,v,c=>by
  show lx.digits b (v*b+lx.hexVal d) (l++[c])=_
  rw [digits_snoc b l]
  rfl
/-- What lies behind k digits. -/
def Gath (base:Nat) (bs:lx.Bs) (k:Nat) (a:Int):Prop:=(bs.take k).all (digB base)=true∧a=(lx.digits base 0 (bs.take k):Int)
theorem Gath.next {base k:Nat} {bs:lx.Bs} {a:Int} {c:UInt8} (h:Gath base bs k a) (hc:bs.take (k+1)=bs.take k++[c]) (hd:digB base c=true):Gath base bs (k+1) (a*base+(lx.hexVal c:Int)):=by
 refine ⟨?_, ?_⟩
 ·rw [hc,List.all_append,h.1];simp [hd]
 ·rw [hc,digits_snoc,h.2];simp
theorem gath_not {base k:Nat} {bs:lx.Bs} {c:UInt8} (hc:bs.take (k+1)=bs.take k++[c]) (hd:digB base c=false):bs.all (digB base)=false:=by
 cases ha:bs.all (digB base)
 ·rfl
 ·rw [List.all_eq_true] at ha
  have:c∈bs:=List.mem_of_mem_take (i:=k+1) (by rw [hc];simp)
  rw [ha c this] at hd
  cases hd
/-- What ParseUint hands back of a text of digits; of another one. -/
def puOf (base:Nat) (bs:lx.Bs):Value:=if bs.all (digB base)=true then .tuple #[.int .u64 (lx.digits base 0 bs:Int),.nilIface] else .tuple #[.int .u64 0,.iface 197 (.int .i64 2)]
theorem lower_z (z v:Int) (w:World) (h:Hid (bits .or .u8 z 32=v)):Calls Tryz.prog 130 #[.int .u8 z] w fun e w'=>e=.returned (.int .u8 v)∧w=w':=by
 have hv:=h.out
 subst hv
 clear h
 go_enter Tryz.func130,Tryz.ntmps130
 go_wp2
 go_ret
 exact ⟨rfl,rfl⟩
set_option maxHeartbeats 4000000 in
set_option maxRecDepth 100000 in
theorem parseUint_16_8 (t:ByteArray) (hne:t.size≠0) (hmax:t.size≤1000000) (hb:Hid (∀k,k≤t.size→(t.data.toList.take k).all (digB 16)=true→lx.digits 16 0 (t.data.toList.take k)≤255)) (w:World) :
  Calls Tryz.prog 123 #[.string t,.int .i64 16,.int .i64 8] w fun e w'=>e=.returned (puOf 16 t.data.toList)∧w'=Lib.bytesWorld w 5 t:=by
 have hemp:t.toList.isEmpty=false:=by
  rw [←decide_eq_emptyBytes]
  exact decide_eq_false (fun h=>hne (by rw [h];rfl))
 have hcv:=Lib.run_convert_string_bytes (P:=Tryz.prog) w 9 37 5 t (u:=.string) Tryz.underlying9 Tryz.underlying37 Tryz.underlying5
 have hB:Hid (∀j,j<t.size→(Lib.bytesWorld w 5 t).cell? ⟨w.heap.size,j,none⟩=some (.int .u8 (t.data.toList.getD j 0).toNat)):=fun j hj=>Lib.bytesWorld_cell w 5 t j hj
 obtain ⟨W1,hW1⟩:∃W1,W1=Lib.bytesWorld w 5 t:=⟨_,rfl⟩
 rw [←hW1] at hcv hB ⊢
 clear hW1
 obtain ⟨bs,hL⟩:∃bs,bs=t.data.toList:=⟨_,rfl⟩
 have hLn:bs.length=t.size:=by rw [hL,Lib.size_eq]
 rw [←hL] at hB hb ⊢
 clear hL
 go_enter Tryz.func123,Tryz.ntmps123
 go_wp2
 go_loop [12,13,101] (fun vu vn vi=>∃(k:Nat) (a:Int),vu=.bool false∧vn=.int .u64 a∧vi=.int .i64 k∧k≤t.size∧0≤a∧a≤255∧Hid (Gath 16 bs k a))
  (fun _ _ vi=>t.size-(intOf vi).toNat)
 case atStart=>exact ⟨0,0,rfl,rfl,rfl,by omega,by omega,by omega,rfl,rfl⟩
 case round =>
  obtain ⟨k,a,rfl,rfl,rfl,hk,a0,a1,HG⟩:=hrel
  have icut:a<1152921504606846976:=by omega
  by_cases hkn:k<t.size
  ·have hc:=hB.out k hkn
   have hget:bs.getD k 0=bs[k]'(by omega):=by simp [List.getD,List.getElem?_eq_getElem (show k<bs.length by omega)]
   have HT:=Lib.hid (show bs.take (k+1)=bs.take k++[bs[k]'(by omega)] from List.take_succ_eq_append_getElem (by omega))
   rw [hget] at hc
   generalize bs[k]'(by omega)=c at hc HT
   have hc256:(c.toNat:Int)≤255:=by have:=c.toNat_lt;omega
   clear hget
   cases hg:digB 16 c
   ·
    have HN:=Lib.hid (gath_not HT.out hg)
    by_cases hdig:48≤c.toNat∧c.toNat≤57
    ·obtain ⟨hd0,hd1⟩:=hdig
     have h95:¬((c.toNat:Int)=95):=by omega
     exfalso
     simp [digB,lx.hex] at hg
     omega
    ·have HL:=Lib.hid (low_of c hdig)
     by_cases h95:c.toNat=95
     ·have hv:Hid (bits .or .u8 95 32=127):=by show _=_;decide +kernel
      have hz:(c.toNat:Int)=95:=by omega
      rw [hz] at hc
      clear hz
      go_wp2_with (go_at_call 130;refine (lower_z _ _ _ hv).mono ?_;rintro e w' ⟨rfl,rfl⟩)
      go_ret2
      exact ⟨by rw [puOf,HN.out];rfl,rfl⟩
     ·have h95:¬((c.toNat:Int)=95):=by omega
      obtain ⟨v,hv⟩:∃v,Hid (bits .or .u8 (c.toNat:Int) 32=v):=⟨_,rfl⟩
      rw [hv.out] at HL
      have hv0:=bits_lo_u8 .or (c.toNat:Int) 32
      have hv1:=bits_hi_u8 .or (c.toNat:Int) 32
      rw [hv.out] at hv0 hv1
      have hcs:(97≤v∧v≤122∧16≤v-87)∨v<97∨122<v:=by
       rcases HL.out with h|h|h
       ·left
        refine ⟨h.1,by omega, ?_⟩
        have h0:=h.1
        first
         | omega
         | (exfalso;have h4:=h.2.2.1;simp [digB,h4] at hg)
       ·left;omega
       ·right;exact h.1
      by_cases hlo:(c.toNat:Int)<48
      ·rcases hcs with ⟨h1,h2,h3⟩|h1|h1
       all_goals go_wp2_with (go_at_call 130;refine (lower_z _ v _ hv).mono ?_;rintro e w' ⟨rfl,rfl⟩)
       all_goals go_ret2
       all_goals exact ⟨by rw [puOf,HN.out];rfl,rfl⟩
      ·have hhi:57<(c.toNat:Int):=by omega
       rcases hcs with ⟨h1,h2,h3⟩|h1|h1
       all_goals go_wp2_with (go_at_call 130;refine (lower_z _ v _ hv).mono ?_;rintro e w' ⟨rfl,rfl⟩)
       all_goals go_ret2
       all_goals exact ⟨by rw [puOf,HN.out];rfl,rfl⟩
   ·
    have HX:=Lib.hid (HG.out.next HT.out hg)
    have hle:a*16+(lx.hexVal c:Int)≤255:=by
     have h1:=hb.out (k+1) (by omega) HX.out.1
     have h2:=HX.out.2
     omega
    by_cases hdig:48≤c.toNat∧c.toNat≤57
    ·obtain ⟨hd0,hd1⟩:=hdig
     have h95:¬((c.toNat:Int)=95):=by omega
     have hh:(lx.hexVal c:Int)=(c.toNat:Int)-48:=by unfold lx.hexVal;rw [if_pos hd1];omega
     have hd2:(c.toNat:Int)-48<16:=by
      first
       | omega
       | (simp [digB,lx.oct] at hg;omega)
     rw [hh] at hle
     have HX':Hid (Gath 16 bs (k+1) (a*16+((c.toNat:Int)-48))):=by rw [←hh];exact HX.out
     clear hh HX
     go_wp2
     refine ⟨⟨k+1,a*16+((c.toNat:Int)-48),rfl,(by first|rfl|(congr 1;omega)),(by first|rfl|(congr 1;omega)),by omega,by omega,by omega,HX'⟩,by simp [intOf];omega⟩
    ·have HL:=Lib.hid (low_of c hdig)
     have h95:¬((c.toNat:Int)=95):=by
      simp [digB,lx.hex] at hg
      omega
     obtain ⟨v,hv⟩:∃v,Hid (bits .or .u8 (c.toNat:Int) 32=v):=⟨_,rfl⟩
     rw [hv.out] at HL
     have hcs:97≤v∧v≤102∧(lx.hexVal c:Int)=v-87:=by
      have hx:lx.hex c=true:=by simpa [digB] using hg
      rcases HL.out with h|h|h
      ·exact ⟨h.1,h.2.1,h.2.2.2⟩
      ·rw [hx] at h;cases h.2.2
      ·rw [hx] at h;cases h.2
     obtain ⟨h1,h2,h3⟩:=hcs
     rw [h3] at hle
     have HX':Hid (Gath 16 bs (k+1) (a*16+(v-87))):=by rw [←h3];exact HX.out
     clear h3 HX
     have hhi:57<(c.toNat:Int):=by
      simp [digB,lx.hex] at hg
      omega
     go_wp2_with (go_at_call 130;refine (lower_z _ v _ hv).mono ?_;rintro e w' ⟨rfl,rfl⟩)
     refine ⟨⟨k+1,a*16+(v-87),rfl,(by first|rfl|(congr 1;omega)),(by first|rfl|(congr 1;omega)),by omega,by omega,by omega,HX'⟩,by simp [intOf];omega⟩
  ·
   have hkk:k=t.size:=by omega
   subst hkk
   have hta:bs.take t.size=bs:=List.take_of_length_le (by omega)
   have HG1:=Lib.hid HG.out.1
   have HG2:=Lib.hid HG.out.2
   rw [hta] at HG1 HG2
   go_wp2
   go_ret2
   exact ⟨by rw [puOf,if_pos HG1.out,←HG2.out];rfl,rfl⟩
set_option maxHeartbeats 4000000 in
set_option maxRecDepth 100000 in
theorem parseUint_16_32 (t:ByteArray) (hne:t.size≠0) (hmax:t.size≤1000000) (hb:Hid (∀k,k≤t.size→(t.data.toList.take k).all (digB 16)=true→lx.digits 16 0 (t.data.toList.take k)≤4294967295)) (w:World) :
  Calls Tryz.prog 123 #[.string t,.int .i64 16,.int .i64 32] w fun e w'=>e=.returned (puOf 16 t.data.toList)∧w'=Lib.bytesWorld w 5 t:=by
 have hemp:t.toList.isEmpty=false:=by
  rw [←decide_eq_emptyBytes]
  exact decide_eq_false (fun h=>hne (by rw [h];rfl))
 have hcv:=Lib.run_convert_string_bytes (P:=Tryz.prog) w 9 37 5 t (u:=.string) Tryz.underlying9 Tryz.underlying37 Tryz.underlying5
 have hB:Hid (∀j,j<t.size→(Lib.bytesWorld w 5 t).cell? ⟨w.heap.size,j,none⟩=some (.int .u8 (t.data.toList.getD j 0).toNat)):=fun j hj=>Lib.bytesWorld_cell w 5 t j hj
 obtain ⟨W1,hW1⟩:∃W1,W1=Lib.bytesWorld w 5 t:=⟨_,rfl⟩
 rw [←hW1] at hcv hB ⊢
 clear hW1
 obtain ⟨bs,hL⟩:∃bs,bs=t.data.toList:=⟨_,rfl⟩
 have hLn:bs.length=t.size:=by rw [hL,Lib.size_eq]
 rw [←hL] at hB hb ⊢
 clear hL
 go_enter Tryz.func123,Tryz.ntmps123
 go_wp2
 go_loop [12,13,101] (fun vu vn vi=>∃(k:Nat) (a:Int),vu=.bool false∧vn=.int .u64 a∧vi=.int .i64 k∧k≤t.size∧0≤a∧a≤4294967295∧Hid (Gath 16 bs k a))
  (fun _ _ vi=>t.size-(intOf vi).toNat)
 case atStart=>exact ⟨0,0,rfl,rfl,rfl,by omega,by omega,by omega,rfl,rfl⟩
 case round =>
  obtain ⟨k,a,rfl,rfl,rfl,hk,a0,a1,HG⟩:=hrel
  have icut:a<1152921504606846976:=by omega
  by_cases hkn:k<t.size
  ·have hc:=hB.out k hkn
   have hget:bs.getD k 0=bs[k]'(by omega):=by simp [List.getD,List.getElem?_eq_getElem (show k<bs.length by omega)]
   have HT:=Lib.hid (show bs.take (k+1)=bs.take k++[bs[k]'(by omega)] from List.take_succ_eq_append_getElem (by omega))
   rw [hget] at hc
   generalize bs[k]'(by omega)=c at hc HT
   have hc256:(c.toNat:Int)≤255:=by have:=c.toNat_lt;omega
   clear hget
   cases hg:digB 16 c
   ·
    have HN:=Lib.hid (gath_not HT.out hg)
    by_cases hdig:48≤c.toNat∧c.toNat≤57
    ·obtain ⟨hd0,hd1⟩:=hdig
     have h95:¬((c.toNat:Int)=95):=by omega
     exfalso
     simp [digB,lx.hex] at hg
     omega
    ·have HL:=Lib.hid (low_of c hdig)
     by_cases h95:c.toNat=95
     ·have hv:Hid (bits .or .u8 95 32=127):=by show _=_;decide +kernel
      have hz:(c.toNat:Int)=95:=by omega
      rw [hz] at hc
      clear hz
      go_wp2_with (go_at_call 130;refine (lower_z _ _ _ hv).mono ?_;rintro e w' ⟨rfl,rfl⟩)
      go_ret2
      exact ⟨by rw [puOf,HN.out];rfl,rfl⟩
     ·have h95:¬((c.toNat:Int)=95):=by omega
      obtain ⟨v,hv⟩:∃v,Hid (bits .or .u8 (c.toNat:Int) 32=v):=⟨_,rfl⟩
      rw [hv.out] at HL
      have hv0:=bits_lo_u8 .or (c.toNat:Int) 32
      have hv1:=bits_hi_u8 .or (c.toNat:Int) 32
      rw [hv.out] at hv0 hv1
      have hcs:(97≤v∧v≤122∧16≤v-87)∨v<97∨122<v:=by
       rcases HL.out with h|h|h
       ·left
        refine ⟨h.1,by omega, ?_⟩
        have h0:=h.1
        first
         | omega
         | (exfalso;have h4:=h.2.2.1;simp [digB,h4] at hg)
       ·left;omega
       ·right;exact h.1
      by_cases hlo:(c.toNat:Int)<48
      ·rcases hcs with ⟨h1,h2,h3⟩|h1|h1
       all_goals go_wp2_with (go_at_call 130;refine (lower_z _ v _ hv).mono ?_;rintro e w' ⟨rfl,rfl⟩)
       all_goals go_ret2
       all_goals exact ⟨by rw [puOf,HN.out];rfl,rfl⟩
      ·have hhi:57<(c.toNat:Int):=by omega
       rcases hcs with ⟨h1,h2,h3⟩|h1|h1
       all_goals go_wp2_with (go_at_call 130;refine (lower_z _ v _ hv).mono ?_;rintro e w' ⟨rfl,rfl⟩)
       all_goals go_ret2
       all_goals exact ⟨by rw [puOf,HN.out];rfl,rfl⟩
   ·
    have HX:=Lib.hid (HG.out.next HT.out hg)
    have hle:a*16+(lx.hexVal c:Int)≤4294967295:=by
     have h1:=hb.out (k+1) (by omega) HX.out.1
     have h2:=HX.out.2
     omega
    by_cases hdig:48≤c.toNat∧c.toNat≤57
    ·obtain ⟨hd0,hd1⟩:=hdig
     have h95:¬((c.toNat:Int)=95):=by omega
     have hh:(lx.hexVal c:Int)=(c.toNat:Int)-48:=by unfold lx.hexVal;rw [if_pos hd1];omega
     have hd2:(c.toNat:Int)-48<16:=by
      first
       | omega
       | (simp [digB,lx.oct] at hg;omega)
     rw [hh] at hle
     have HX':Hid (Gath 16 bs (k+1) (a*16+((c.toNat:Int)-48))):=by rw [←hh];exact HX.out
     clear hh HX
     go_wp2
     refine ⟨⟨k+1,a*16+((c.toNat:Int)-48),rfl,(by first|rfl|(congr 1;omega)),(by first|rfl|(congr 1;omega)),by omega,by omega,by omega,HX'⟩,by simp [intOf];omega⟩
    ·have HL:=Lib.hid (low_of c hdig)
     have h95:¬((c.toNat:Int)=95):=by
      simp [digB,lx.hex] at hg
      omega
     obtain ⟨v,hv⟩:∃v,Hid (bits .or .u8 (c.toNat:Int) 32=v):=⟨_,rfl⟩
     rw [hv.out] at HL
     have hcs:97≤v∧v≤102∧(lx.hexVal c:Int)=v-87:=by
      have hx:lx.hex c=true:=by simpa [digB] using hg
      rcases HL.out with h|h|h
      ·exact ⟨h.1,h.2.1,h.2.2.2⟩
      ·rw [hx] at h;cases h.2.2
      ·rw [hx] at h;cases h.2
     obtain ⟨h1,h2,h3⟩:=hcs
     rw [h3] at hle
     have HX':Hid (Gath 16 bs (k+1) (a*16+(v-87))):=by rw [←h3];exact HX.out
     clear h3 HX
     have hhi:57<(c.toNat:Int):=by
      simp [digB,lx.hex] at hg
      omega
     go_wp2_with (go_at_call 130;refine (lower_z _ v _ hv).mono ?_;rintro e w' ⟨rfl,rfl⟩)
     refine ⟨⟨k+1,a*16+(v-87),rfl,(by first|rfl|(congr 1;omega)),(by first|rfl|(congr 1;omega)),by omega,by omega,by omega,HX'⟩,by simp [intOf];omega⟩
  ·
   have hkk:k=t.size:=by omega
   subst hkk
   have hta:bs.take t.size=bs:=List.take_of_length_le (by omega)
   have HG1:=Lib.hid HG.out.1
   have HG2:=Lib.hid HG.out.2
   rw [hta] at HG1 HG2
   go_wp2
   go_ret2
   exact ⟨by rw [puOf,if_pos HG1.out,←HG2.out];rfl,rfl⟩
set_option maxHeartbeats 4000000 in
set_option maxRecDepth 100000 in
theorem parseUint_8_8 (t:ByteArray) (hne:t.size≠0) (hmax:t.size≤1000000) (hb:Hid (∀k,k≤t.size→(t.data.toList.take k).all (digB 8)=true→lx.digits 8 0 (t.data.toList.take k)≤255)) (w:World) :
  Calls Tryz.prog 123 #[.string t,.int .i64 8,.int .i64 8] w fun e w'=>e=.returned (puOf 8 t.data.toList)∧w'=Lib.bytesWorld w 5 t:=by
 have hemp:t.toList.isEmpty=false:=by
  rw [←decide_eq_emptyBytes]
  exact decide_eq_false (fun h=>hne (by rw [h];rfl))
 have hcv:=Lib.run_convert_string_bytes (P:=Tryz.prog) w 9 37 5 t (u:=.string) Tryz.underlying9 Tryz.underlying37 Tryz.underlying5
 have hB:Hid (∀j,j<t.size→(Lib.bytesWorld w 5 t).cell? ⟨w.heap.size,j,none⟩=some (.int .u8 (t.data.toList.getD j 0).toNat)):=fun j hj=>Lib.bytesWorld_cell w 5 t j hj
 obtain ⟨W1,hW1⟩:∃W1,W1=Lib.bytesWorld w 5 t:=⟨_,rfl⟩
 rw [←hW1] at hcv hB ⊢
 clear hW1
 obtain ⟨bs,hL⟩:∃bs,bs=t.data.toList:=⟨_,rfl⟩
 have hLn:bs.length=t.size:=by rw [hL,Lib.size_eq]
 rw [←hL] at hB hb ⊢
 clear hL
 go_enter Tryz.func123,Tryz.ntmps123
 go_wp2
 go_loop [12,13,101] (fun vu vn vi=>∃(k:Nat) (a:Int),vu=.bool false∧vn=.int .u64 a∧vi=.int .i64 k∧k≤t.size∧0≤a∧a≤255∧Hid (Gath 8 bs k a))
  (fun _ _ vi=>t.size-(intOf vi).toNat)
 case atStart=>exact ⟨0,0,rfl,rfl,rfl,by omega,by omega,by omega,rfl,rfl⟩
 case round =>
  obtain ⟨k,a,rfl,rfl,rfl,hk,a0,a1,HG⟩:=hrel
  have icut:a<2305843009213693952:=by omega
  by_cases hkn:k<t.size
  ·have hc:=hB.out k hkn
   have hget:bs.getD k 0=bs[k]'(by omega):=by simp [List.getD,List.getElem?_eq_getElem (show k<bs.length by omega)]
   have HT:=Lib.hid (show bs.take (k+1)=bs.take k++[bs[k]'(by omega)] from List.take_succ_eq_append_getElem (by omega))
   rw [hget] at hc
   generalize bs[k]'(by omega)=c at hc HT
   have hc256:(c.toNat:Int)≤255:=by have:=c.toNat_lt;omega
   clear hget
   cases hg:digB 8 c
   ·
    have HN:=Lib.hid (gath_not HT.out hg)
    by_cases hdig:48≤c.toNat∧c.toNat≤57
    ·obtain ⟨hd0,hd1⟩:=hdig
     have h95:¬((c.toNat:Int)=95):=by omega
     have hd2:8≤(c.toNat:Int)-48:=by
      simp [digB,lx.oct] at hg
      omega
     go_wp2
     go_ret2
     exact ⟨by rw [puOf,HN.out];rfl,rfl⟩
    ·have HL:=Lib.hid (low_of c hdig)
     by_cases h95:c.toNat=95
     ·have hv:Hid (bits .or .u8 95 32=127):=by show _=_;decide +kernel
      have hz:(c.toNat:Int)=95:=by omega
      rw [hz] at hc
      clear hz
      go_wp2_with (go_at_call 130;refine (lower_z _ _ _ hv).mono ?_;rintro e w' ⟨rfl,rfl⟩)
      go_ret2
      exact ⟨by rw [puOf,HN.out];rfl,rfl⟩
     ·have h95:¬((c.toNat:Int)=95):=by omega
      obtain ⟨v,hv⟩:∃v,Hid (bits .or .u8 (c.toNat:Int) 32=v):=⟨_,rfl⟩
      rw [hv.out] at HL
      have hv0:=bits_lo_u8 .or (c.toNat:Int) 32
      have hv1:=bits_hi_u8 .or (c.toNat:Int) 32
      rw [hv.out] at hv0 hv1
      have hcs:(97≤v∧v≤122∧8≤v-87)∨v<97∨122<v:=by
       rcases HL.out with h|h|h
       ·left
        refine ⟨h.1,by omega, ?_⟩
        have h0:=h.1
        first
         | omega
         | (exfalso;have h4:=h.2.2.1;simp [digB,h4] at hg)
       ·left;omega
       ·right;exact h.1
      by_cases hlo:(c.toNat:Int)<48
      ·rcases hcs with ⟨h1,h2,h3⟩|h1|h1
       all_goals go_wp2_with (go_at_call 130;refine (lower_z _ v _ hv).mono ?_;rintro e w' ⟨rfl,rfl⟩)
       all_goals go_ret2
       all_goals exact ⟨by rw [puOf,HN.out];rfl,rfl⟩
      ·have hhi:57<(c.toNat:Int):=by omega
       rcases hcs with ⟨h1,h2,h3⟩|h1|h1
       all_goals go_wp2_with (go_at_call 130;refine (lower_z _ v _ hv).mono ?_;rintro e w' ⟨rfl,rfl⟩)
       all_goals go_ret2
       all_goals exact ⟨by rw [puOf,HN.out];rfl,rfl⟩
   ·
    have HX:=Lib.hid (HG.out.next HT.out hg)
    have hle:a*8+(lx.hexVal c:Int)≤255:=by
     have h1:=hb.out (k+1) (by omega) HX.out.1
     have h2:=HX.out.2
     omega
    by_cases hdig:48≤c.toNat∧c.toNat≤57
    ·obtain ⟨hd0,hd1⟩:=hdig
     have h95:¬((c.toNat:Int)=95):=by omega
     have hh:(lx.hexVal c:Int)=(c.toNat:Int)-48:=by unfold lx.hexVal;rw [if_pos hd1];omega
     have hd2:(c.toNat:Int)-48<8:=by
      first
       | omega
       | (simp [digB,lx.oct] at hg;omega)
     rw [hh] at hle
     have HX':Hid (Gath 8 bs (k+1) (a*8+((c.toNat:Int)-48))):=by rw [←hh];exact HX.out
     clear hh HX
     go_wp2
     refine ⟨⟨k+1,a*8+((c.toNat:Int)-48),rfl,(by first|rfl|(congr 1;omega)),(by first|rfl|(congr 1;omega)),by omega,by omega,by omega,HX'⟩,by simp [intOf];omega⟩
    ·exfalso
     simp [digB,lx.oct] at hg
     omega
  ·
   have hkk:k=t.size:=by omega
   subst hkk
   have hta:bs.take t.size=bs:=List.take_of_length_le (by omega)
   have HG1:=Lib.hid HG.out.1
   have HG2:=Lib.hid HG.out.2
   rw [hta] at HG1 HG2
   go_wp2
   go_ret2
   exact ⟨by rw [puOf,if_pos HG1.out,←HG2.out];rfl,rfl⟩
end Go.Proofs.YtaamolahbkgofaaGreatDoor.lex
