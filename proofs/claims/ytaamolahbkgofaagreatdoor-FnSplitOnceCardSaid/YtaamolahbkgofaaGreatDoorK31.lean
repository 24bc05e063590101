/-
  The lexer's NextToken: the next token, or the error that nextToken's panic carries. The thin package's lexerOf: a lexer that has read nothing. errors.As at the lexer's own error; placeOf. The thin package's placeOf. impl.Lex: all tokens of a text. impl.Loose: all tokens of a text, read loosely; laws.lexes. Conditions: of each, in its statement.
-/
import Derived.Test.YtaamolahbkgofaaGreatDoorK30
import Derived.Defers
import Derived.Recover
import Derived.Test.YtaamolahbkgofaaGreatDoorK05
import Derived.Test.YtaamolahbkgofaaGreatDoorK02
import Derived.WalkKit
import Derived.LaidEql
import Derived.LoopN
import Derived.Stop.Asserts
import Derived.RowKitTokens
import Derived.Test.YtaamolahbkgofaaGreatDoorK06
import Derived.Deep.AppendLies
set_option linter.unusedVariables false
set_option linter.unusedSimpArgs false
namespace Go.Proofs.YtaamolahbkgofaaGreatDoor.lex
open Go.RowKit mem lines plain
set_option maxHeartbeats 1000000 in
theorem catch_idle (p:Addr) (w:World) :
  CallsD Tryz.prog 40 #[.pointer (some p)] .returning w fun e u' w'=>e=.returned (.tuple #[])∧u'=.returning∧w'=w:=by
 refine callsD_of_wpS Tryz.func40 rfl fun c₀ cs hu=>?_
 apply wpS_seq
 apply wpS_region
 simp [wpOpsS,go_sem,recoverD,hu,Tryz.ntmps40,Exit.thenS]
 refine wpS_of_wp ?_
 rw [show (#[Value.pointer (some p)]++((Array.replicate 15 undef).setIfInBounds 3 Value.nilIface).setIfInBounds 0 Value.nilIface)=#[Value.pointer (some p),.nilIface,undef,undef,.nilIface,undef,undef,undef,undef,undef,undef,undef,undef,undef,undef,undef] from rfl]
 go_wp2_with fail
 cases c₀
 simp_all [bodyPostS,results,Tryz.results40]
theorem assert_err (v:Value) (w:World):(Instr.typeAssert (.iface 80 v) 20 80 true).run Tryz.prog w=.ok (.tuple #[v,.bool true]) w:=by
 simp [Instr.typeAssert,run_underlying Tryz.underlying80,go_sem,Result.andThen]
set_option maxHeartbeats 1000000 in
set_option maxRecDepth 100000 in
theorem catch_panicking (p:Addr) (m:Nat) (w:World) (hc:w.cell? p=some .nilIface) (hz:w.frozen? p=false) :
  CallsD Tryz.prog 40 #[.pointer (some p)] (.panicking [{ v:=.iface 80 (.pointer (some ⟨m,0,none⟩)),recovered:=false }]) w fun e u' w' =>
   e=.returned (.tuple #[])∧u'=.panicking [{ v:=.iface 80 (.pointer (some ⟨m,0,none⟩)),recovered:=true }]∧w'=w.setCell p (.iface 80 (.pointer (some ⟨m,0,none⟩))):=by
 have hta:=assert_err
 refine callsD_of_wpS Tryz.func40 rfl fun c₀ cs hu=>?_
 apply wpS_seq
 apply wpS_region
 simp [wpOpsS,go_sem,recoverD,hu,Tryz.ntmps40,Exit.thenS]
 refine wpS_of_wp ?_
 rw [show (#[Value.pointer (some p)]++((Array.replicate 15 undef).setIfInBounds 3 (Value.iface 80 (.pointer (some ⟨m,0,none⟩)))).setIfInBounds 0 (Value.iface 80 (.pointer (some ⟨m,0,none⟩))))=#[Value.pointer (some p),.iface 80 (.pointer (some ⟨m,0,none⟩)),undef,undef,.iface 80 (.pointer (some ⟨m,0,none⟩)),undef,undef,undef,undef,undef,undef,undef,undef,undef,undef,undef] from rfl]
 go_wp2_with fail
 cases c₀
 simp_all [bodyPostS,results,Tryz.results40]
/-- What NextToken comes to. -/
def NTPost (B b f:Nat) (s:ByteArray) (x:St) (o:lx.Got) (w:World) (e:Ending) (w':World):Prop :=
 match o with
 | .tok k d=>∃z:St,e=.returned .nilIface∧LexS w' B b f s z∧w.grownBy w' (some b)∧Bears w w' z k∧z.dot=d∧z.last=x.kind
 | .fault=>∃m,e=.returned (.iface 80 (.pointer (some ⟨m,0,none⟩)))∧w.heap.size≤m∧ErrAt m w'∧Grown2 b f w w'
 | .crash=>True
theorem Bears.base {u w w':World} {z:St} {k:lx.Tk} (h:Bears w w' z k) (hs:u.heap.size≤w.heap.size):Bears u w' z k:=by
 refine ⟨h.kind, ?_,h.sp,h.raw,h.text,h.pos,h.fin,h.at_⟩
 obtain ⟨h1,h2|⟨g,cap,cur,h3,h4,h5⟩⟩:=h.coms
 ·exact ⟨h1,.inl h2⟩
 ·exact ⟨h1,.inr ⟨g,cap,cur,h3,Nat.le_trans hs h4,h5⟩⟩
theorem err_kept {w w2:World} {b f m:Nat} {v:Value} (hb:b<w.heap.size) (hf:f<w.heap.size) (hm:(w.alloc (.cells #[.nilIface] 54)).heap.size≤m) (hE:ErrAt m w2) (hg:Grown2 b f (w.alloc (.cells #[.nilIface] 54)) w2) :
  ErrAt m (w2.setCell ⟨w.heap.size,0,none⟩ v)∧Grown2 b f w (w2.setCell ⟨w.heap.size,0,none⟩ v):=by
 have hsz:(w.alloc (.cells #[.nilIface] 54)).heap.size=w.heap.size+1:=by simp
 have hbl:w2.heap[w.heap.size]?=some (.cells #[.nilIface] 54 (0,0)):=(hg.block w.heap.size (by omega) (by omega) (by omega)).trans (heap_alloc_new w _)
 obtain ⟨msg,q,pv,h1,h2⟩:=hE
 have hq:q≠w.heap.size:=by
  rintro rfl
  rw [cells_of_heap hbl 1] at h2
  simp at h2
 have hother:∀i,i≠w.heap.size→(w2.setCell ⟨w.heap.size,0,none⟩ v).heap[i]?=w2.heap[i]?:=fun i hi=>Below.heap_setCell w2 ⟨w.heap.size,0,none⟩ v i hi
 refine ⟨⟨msg,q,pv,(hother m (by omega)).trans h1, ?_⟩,⟨hg.os,hg.tape,hg.output, ?_,fun i hi h3 h4=>?_⟩⟩
 ·rw [←h2]
  simp only [World.cell?,hother q hq]
 ·have h5:=hg.size
  have h6:w2.heap.size≤(w2.setCell ⟨w.heap.size,0,none⟩ v).heap.size:=(grown_set (grown_refl w2 (some w.heap.size)) 0 v).size
  omega
 ·exact (hother i (by omega)).trans ((hg.block i (by omega) h3 h4).trans (heap_alloc_old w _ hi))
set_option maxHeartbeats 1000000 in
set_option maxRecDepth 100000 in
theorem nt_any {w:World} {B b f:Nat} {s:ByteArray} {x:St} (h:LexS w B b f s x) (hcr:lx.nextTok false x.at_ x.kind.data.toList x.dot (rest s x.at_)≠.crash) :
  Calls Tryz.prog 28 #[.pointer (some ⟨b,0,none⟩)] w (NTPost B b f s x (lx.nextTok false x.at_ x.kind.data.toList x.dot (rest s x.at_)) w):=by
 have hmf:∀(fn:Fn) (first cap:Array Value) (w:World),(Instr.makeFunc fn first cap).run Tryz.prog w=.ok (.func fn first cap) w:=fun _ _ _ _=>rfl
 have HN:=Lib.hid (next_any false (h.below (below_alloc w (.cells #[.nilIface] 54))) hcr)
 have hbw:=h.lt
 have hfw:=h.flt
 have hsz:(w.alloc (.cells #[.nilIface] 54)).heap.size=w.heap.size+1:=by simp
 clear h
 generalize lx.nextTok false x.at_ x.kind.data.toList x.dot (rest s x.at_)=o at *
 cases o with
 | crash=>exact absurd rfl hcr
 | fault =>
  go_enter_defers Tryz.func28,Tryz.ntmps28
  go_wp2_with (go_at_call 41;refine HN.out.mono ?_;rintro e w2 ⟨m,rfl,hm,hE,hg⟩;have HE:=Lib.hid (err_kept (v:=.iface 80 (.pointer (some ⟨m,0,none⟩))) hbw hfw hm hE hg);have HM:=Lib.hid hm;have hbl:=(hg.block w.heap.size (by omega) (by omega) (by omega)).trans (heap_alloc_new w _);have c0:w2.cell? ⟨w.heap.size,0,none⟩=some .nilIface:=cells_of_heap hbl 0;have g0:w2.frozen? ⟨w.heap.size,0,none⟩=false:=free_of_heap hbl 0;have cs:(w2.setCell ⟨w.heap.size,0,none⟩ (.iface 80 (.pointer (some ⟨m,0,none⟩)))).cell? ⟨w.heap.size,0,none⟩=some (.iface 80 (.pointer (some ⟨m,0,none⟩))):=cells_of_heap (set_of_heap hbl 0 _) 0;clear hm hE hg hbl)
  refine leaves_cons (f:=40) (args:=#[.pointer (some ⟨w.heap.size,0,none⟩)]) (by simp) (by simp [go_sem]) ?_
  refine (catch_panicking ⟨w.heap.size,0,none⟩ m _ c0 g0).mono ?_
  rintro e u' w'' ⟨rfl,rfl,rfl⟩
  simp [Leaves,settle,results,Tryz.results28,go_sem]
  rw [cs]
  refine ⟨_,rfl,m,rfl, ?_,HE.out.1,HE.out.2⟩
  have:=HM.out
  omega
 | tok k d =>
  go_enter_defers Tryz.func28,Tryz.ntmps28
  go_wp2_with (go_at_call 41;refine HN.out.mono ?_;rintro e w2 ⟨z,rfl,hl,hg,hB,hd,hla⟩;have HL:=Lib.hid hl;have HG:=Lib.hid hg;have HB:=Lib.hid hB;have HD:=Lib.hid hd;have HLA:=Lib.hid hla;have hbl:=(hg.block w.heap.size (by omega) (by simp;omega)).trans (heap_alloc_new w _);have c0:w2.cell? ⟨w.heap.size,0,none⟩=some .nilIface:=cells_of_heap hbl 0;clear hl hg hB hd hla hbl)
  refine leaves_cons (f:=40) (args:=#[.pointer (some ⟨w.heap.size,0,none⟩)]) (by simp) (by simp [go_sem]) ?_
  refine (catch_idle ⟨w.heap.size,0,none⟩ _).mono ?_
  rintro e u' w'' ⟨rfl,rfl,rfl⟩
  simp [Leaves,settle,results,Tryz.results28,go_sem]
  rw [c0]
  refine ⟨_,rfl,z,rfl,HL.out, ?_,HB.out.base (by omega),HD.out,HLA.out⟩
  exact grown_trans (grown_below (below_alloc w _) _) HG.out
end Go.Proofs.YtaamolahbkgofaaGreatDoor.lex
set_option linter.unusedVariables false
set_option linter.unusedSimpArgs false
namespace Go.Proofs.YtaamolahbkgofaaGreatDoor.lex
open Go.RowKit mem lines plain
/-- A lexer that has read nothing. -/
def St.new:St:={ kind:=⟨#[]⟩,coms:=.slice none 0 0,sp:=⟨#[]⟩,raw:=⟨#[]⟩,str:=⟨#[]⟩,base:=0,pos:=0,fin:=0,at_:=0,last:=⟨#[]⟩,dot:=false }
set_option maxHeartbeats 1000000 in
set_option maxRecDepth 100000 in
theorem lexerOf_any (s:ByteArray) (w:World) (hs:s.size≤20000) (hT:TabsAt w) :
  Calls Tryz.prog 27 #[.string s] w fun e w'=>e=.returned (.pointer (some ⟨w.heap.size+1,0,none⟩))∧LexS w' w.heap.size (w.heap.size+1) w.heap.size s St.new∧Below w.heap.size w w':=by
 go_enter Tryz.func27,Tryz.ntmps27
 go_wp2_with fail
 (first|go_end0|go_ret)
 have hb:Below w.heap.size w ((w.alloc (.cells #[.string ⟨#[]⟩,.string s,.slice none 0 0] 68)).alloc (.cells #[.pointer (some ⟨w.heap.size,0,none⟩),.string ⟨#[]⟩,.slice none 0 0,.string ⟨#[]⟩,.string ⟨#[]⟩,.string ⟨#[]⟩,.int .i64 0,.int .i64 0,.int .i64 0,.int .i64 0,.string ⟨#[]⟩,.bool false] 65)):=((Below.refl _ _).alloc (Nat.le_refl _) _).alloc (by simp) _
 have h1:=heap_alloc_new (w.alloc (.cells #[.string ⟨#[]⟩,.string s,.slice none 0 0] 68)) (.cells #[.pointer (some ⟨w.heap.size,0,none⟩),.string ⟨#[]⟩,.slice none 0 0,.string ⟨#[]⟩,.string ⟨#[]⟩,.string ⟨#[]⟩,.int .i64 0,.int .i64 0,.int .i64 0,.int .i64 0,.string ⟨#[]⟩,.bool false] 65)
 rw [show (w.alloc (.cells #[.string ⟨#[]⟩,.string s,.slice none 0 0] 68)).heap.size=w.heap.size+1 from by simp] at h1
 refine ⟨rfl,⟨⟨w,rfl,hT,hb⟩,by omega,Nat.le_refl _,by omega,h1,⟨⟨#[]⟩, ?_⟩,hs,Nat.zero_le _⟩,hb⟩
 exact (heap_alloc_old _ _ (by simp)).trans (heap_alloc_new w _)
end Go.Proofs.YtaamolahbkgofaaGreatDoor.lex
set_option linter.unusedVariables false
set_option linter.unusedSimpArgs false
namespace Go.Proofs.YtaamolahbkgofaaGreatDoor.lex
open Go.RowKit Go.Extern.Stop Go.Stop Go.Extern
/-- errors.As(nil, target). -/
theorem as_nil (t:Value) (w:World) :
  Calls Tryz.prog 42 #[.nilIface,t] w fun e w'=>e=.returned (.bool false)∧w'=w:=by
 go_enter Tryz.func42,Tryz.ntmps42
 go_wp2
 go_ret
 exact ⟨rfl,rfl⟩
/-! ### CLOSED FACTS ON THE MODEL's ENTRIES FOR internal/reflectlite, at this program's types: 25: *p.E · 27: **p.E · 23: error · 45: reflectlite's rtype · 1: how many package-level variables the dump has -/
theorem as_valueOf27 (t:Addr) (w:World):(ReflectliteValue.unpack (.iface 84 (.pointer (some t)))).run Tryz.prog w
  = .ok (.agg #[.pointer (some ⟨12,84,none⟩),.pointer (some ⟨w.heap.size,0,none⟩),.int .u64 150]) (w.alloc (.cells #[.pointer (some t)] 84)):=by kernel_rfl
theorem as_type27 (a:Addr) (w:World):(ReflectliteValue.methodAny (ReflectliteValue.valueError "reflectlite.Value.Type" 0) (fun t _ _ _=>ReflectliteType.toType t) #[.agg #[.pointer (some ⟨12,84,none⟩),.pointer (some a),.int .u64 150]]).run Tryz.prog w
  = .ok (.iface 140 (.agg #[.pointer (some ⟨12,84,none⟩)])) w:=by kernel_rfl
theorem as_methodKind (h:Value) (w:World):(Go.method 340 140 (.agg #[h]) "Kind").run Tryz.prog w=.ok (159,h) w:=by kernel_rfl
theorem as_kind27 (w:World):((ReflectliteType.abiMethod fun t=>(fun a:Nat=>Value.int IntKind.u8 (a:Int)) <$> Rtype.kind t) #[.pointer (some ⟨12,84,none⟩)]).run Tryz.prog w=.ok (.int .u8 22) w:=by kernel_rfl
theorem as_kind25 (w:World):((ReflectliteType.abiMethod fun t=>(fun a:Nat=>Value.int IntKind.u8 (a:Int)) <$> Rtype.kind t) #[.pointer (some ⟨12,80,none⟩)]).run Tryz.prog w=.ok (.int .u8 22) w:=by kernel_rfl
/-! ### THE ENTRIES THAT READ OR WRITE MEMORY: laws with a premise on the cell (after Derived/Lib/ReflectliteSlice.lean's manner: each unfolding a lemma of its own, by rfl) -/
theorem rlm (z:Sem Value) (f:TypeId→Addr→Nat→Nat→Sem Value) (v:Value) :
  ReflectliteValue.method z f #[v]=(do match←ReflectliteValue.parts v with|none=>z|some (t,a,fl)=>f t a fl (fl % 32)):=rfl
theorem as_parts27 (a:Addr) (w:World):(ReflectliteValue.parts (.agg #[.pointer (some ⟨12,84,none⟩),.pointer (some a),.int .u64 150])).run Tryz.prog w=.ok (some (84,a,150)) w:=by kernel_rfl
/-- (Value).IsNil at the Value of a **p.E that is not nil. -/
theorem as_isNil27 (a p:Addr) (W:World) (ha:W.cell? a=some (.pointer (some p))) :
  (ReflectliteValue.method (ReflectliteValue.valueError "reflectlite.Value.IsNil" 0) ReflectliteValue.isNil #[.agg #[.pointer (some ⟨12,84,none⟩),.pointer (some a),.int .u64 150]]).run Tryz.prog W=.ok (.bool false) W:=by
 rw [rlm]
 simp only [Sem.run_bind,as_parts27,Result.andThen]
 simp [ReflectliteValue.isNil,loadVar,isAgg,underlying,Tryz.underlying84,ha,Result.andThen]
theorem as_methodElem (h:Value) (w:World):(Go.method 340 140 (.agg #[h]) "Elem").run Tryz.prog w=.ok (172,.agg #[h]) w:=by kernel_rfl
theorem as_methodImplements (h:Value) (w:World):(Go.method 340 140 (.agg #[h]) "Implements").run Tryz.prog w=.ok (173,.agg #[h]) w:=by kernel_rfl
theorem as_methodAssignableTo (h:Value) (w:World):(Go.method 340 140 (.agg #[h]) "AssignableTo").run Tryz.prog w=.ok (170,.agg #[h]) w:=by kernel_rfl
theorem as_elem27 (w:World):(ReflectliteType.method ReflectliteType.elem #[.agg #[.pointer (some ⟨12,84,none⟩)]]).run Tryz.prog w=.ok (.iface 140 (.agg #[.pointer (some ⟨12,80,none⟩)])) w:=by kernel_rfl
theorem as_implements25 (w:World):(ReflectliteType.relation "Implements" ReflectliteType.implements_ #[.agg #[.pointer (some ⟨12,80,none⟩)],.iface 140 (.agg #[.pointer (some ⟨12,54,none⟩)])]).run Tryz.prog w=.ok (.bool true) w:=by kernel_rfl
theorem as_typeOf25 (v:Value) (w:World):(ReflectliteType.typeOf #[.iface 80 v]).run Tryz.prog w=.ok (.iface 140 (.agg #[.pointer (some ⟨12,80,none⟩)])) w:=by kernel_rfl
theorem as_assignable25 (w:World):(ReflectliteType.relation "AssignableTo" ReflectliteType.assignableTo #[.agg #[.pointer (some ⟨12,80,none⟩)],.iface 140 (.agg #[.pointer (some ⟨12,80,none⟩)])]).run Tryz.prog w=.ok (.bool true) w:=by kernel_rfl
theorem as_valueOf25 (e:Addr) (w:World):(ReflectliteValue.unpack (.iface 80 (.pointer (some e)))).run Tryz.prog w
  = .ok (.agg #[.pointer (some ⟨12,80,none⟩),.pointer (some ⟨w.heap.size,0,none⟩),.int .u64 150]) (w.alloc (.cells #[.pointer (some e)] 80)):=by kernel_rfl
theorem as_elemOf27 (w:World):(Rtype.elem? 84).run Tryz.prog w=.ok (some 80) w:=by kernel_rfl
theorem as_mk25 (p:Addr) (w:World):(ReflectliteValue.mk 80 p ReflectliteValue.flagAddr).run Tryz.prog w=.ok (.agg #[.pointer (some ⟨12,80,none⟩),.pointer (some p),.int .u64 406]) w:=by kernel_rfl
/-- (Value).Elem at the Value of a **p.E that is not nil: the Value of the *p.E variable that it points to, addressable. -/
theorem as_elemV27 (a p:Addr) (W:World) (ha:W.cell? a=some (.pointer (some p))) :
  (ReflectliteValue.method (ReflectliteValue.valueError "reflectlite.Value.Elem" 0) ReflectliteValue.elem #[.agg #[.pointer (some ⟨12,84,none⟩),.pointer (some a),.int .u64 150]]).run Tryz.prog W
   = .ok (.agg #[.pointer (some ⟨12,80,none⟩),.pointer (some p),.int .u64 406]) W:=by
 rw [rlm]
 simp only [Sem.run_bind,as_parts27,Result.andThen]
 simp [ReflectliteValue.elem,loadVar,isAgg,underlying,Tryz.underlying84,ha,Result.andThen,as_elemOf27,as_mk25]
theorem rls (v x:Value):ReflectliteValue.set #[v,x]=(do
  let (some (dst,a,fl),some (src,b,_)):=(←ReflectliteValue.parts v,←ReflectliteValue.parts x)
   | unsupported (.noEntry "extern/(internal/reflectlite.Value).Set.zeroValue")
  if fl / ReflectliteValue.flagAddr % 2==0 then unsupported (.noEntry "extern/(internal/reflectlite.Value).Set.unaddressable")
  let val←loadVar src b
  if←Rtype.directlyAssignable dst src then storeVar dst a val
  else if←Rtype.implements dst src then
   if (←Rtype.kind src)==20 then
    match val with
    | .nilIface=>unsupported (.noEntry "extern/reflectlite: a nil value of one interface type handed on as a value of another")
    | _=>storeVar dst a val
   else storeVar dst a (.iface src val)
  else panicString ("reflectlite.Set: value of type "++(←Rtype.spelt src)++" is not assignable to type "++(←Rtype.spelt dst))
  pure (.tuple #[])):=rfl
theorem as_parts25a (a:Addr) (w:World):(ReflectliteValue.parts (.agg #[.pointer (some ⟨12,80,none⟩),.pointer (some a),.int .u64 406])).run Tryz.prog w=.ok (some (80,a,406)) w:=by kernel_rfl
theorem as_parts25 (a:Addr) (w:World):(ReflectliteValue.parts (.agg #[.pointer (some ⟨12,80,none⟩),.pointer (some a),.int .u64 150])).run Tryz.prog w=.ok (some (80,a,150)) w:=by kernel_rfl
theorem as_direct25 (w:World):(Rtype.directlyAssignable 80 80).run Tryz.prog w=.ok true w:=by kernel_rfl
theorem as_size25 (w:World):(sizeOf 80).run Tryz.prog w=.ok 1 w:=by kernel_rfl
/-- (Value).Set: the *p.E variable at 'ta' gets what the Value's own variable 'b' holds. -/
theorem as_set25 (ta b e:Addr) (old:Value) (W:World) (hb:W.cell? b=some (.pointer (some e))) (ht:W.cell? ta=some old) (hf:W.frozen? ta=false) :
  (ReflectliteValue.set #[.agg #[.pointer (some ⟨12,80,none⟩),.pointer (some ta),.int .u64 406],.agg #[.pointer (some ⟨12,80,none⟩),.pointer (some b),.int .u64 150]]).run Tryz.prog W
   = .ok (.tuple #[]) (W.setCell ta (.pointer (some e))):=by
 rw [rls]
 simp only [Sem.run_bind,as_parts25a,as_parts25,Result.andThen]
 simp [ReflectliteValue.flagAddr,loadVar,isAgg,underlying,Tryz.underlying80,hb,Result.andThen,as_direct25,storeVar,Value.cells,storeCells,Addr.add]
 rw [run_store Tryz.prog W ta _ _ (by rfl)]
 simp [ht,hf]
set_option maxHeartbeats 4000000 in
set_option maxRecDepth 100000 in
theorem as_hit (e t:Addr) (old:Value) (w:World) (hg:w.cell? ⟨0,0,none⟩=some (.iface 140 (.agg #[.pointer (some ⟨12,54,none⟩)]))) (ht0:w.cell? t=some old) (hf0:w.frozen? t=false) :
  Calls Tryz.prog 42 #[.iface 80 (.pointer (some e)),.iface 84 (.pointer (some t))] w fun ev w'=>ev=.returned (.bool true)∧w'=((((w.alloc (.cells #[.pointer (some t)] 84)).alloc (.cells #[.pointer (some ⟨12,84,none⟩),.pointer (some ⟨w.heap.size,0,none⟩),.int .u64 150] 106)).alloc (.cells #[.pointer (some ⟨12,84,none⟩),.pointer (some ⟨w.heap.size,0,none⟩),.int .u64 150] 106)).alloc (.cells #[.pointer (some e)] 80)).setCell t (.pointer (some e)):=by
 have h6:=@run_callFunc_extern Tryz.prog 58 _ (fun args=>ReflectliteValue.unpack (args.getD 0 (.tuple #[]))) Tryz.func58 (by kernel_rfl) (by kernel_rfl) (by kernel_rfl) (by kernel_rfl)
 have h7:=@run_callFunc_extern Tryz.prog 59 _ (ReflectliteValue.methodAny (ReflectliteValue.valueError "reflectlite.Value.Type" 0) (fun t _ _ _=>ReflectliteType.toType t)) Tryz.func59 (by kernel_rfl) (by kernel_rfl) (by kernel_rfl) (by kernel_rfl)
 have h8:=@run_callFunc_extern Tryz.prog 60 _ (ReflectliteValue.method (ReflectliteValue.valueError "reflectlite.Value.IsNil" 0) ReflectliteValue.isNil) Tryz.func60 (by kernel_rfl) (by kernel_rfl) (by kernel_rfl) (by kernel_rfl)
 have h27:=@run_callFunc_extern Tryz.prog 159 _ (ReflectliteType.abiMethod fun t=>do pure (.int .u8 (←Rtype.kind t))) Tryz.func159 (by kernel_rfl) (by kernel_rfl) (by kernel_rfl) (by kernel_rfl)
 have h37:=@run_callFunc_extern Tryz.prog 172 _ (ReflectliteType.method ReflectliteType.elem) Tryz.func172 (by kernel_rfl) (by kernel_rfl) (by kernel_rfl) (by kernel_rfl)
 have h38:=@run_callFunc_extern Tryz.prog 173 _ (ReflectliteType.relation "Implements" ReflectliteType.implements_) Tryz.func173 (by kernel_rfl) (by kernel_rfl) (by kernel_rfl) (by kernel_rfl)
 have h10:=@run_callFunc_extern Tryz.prog 93 _ ReflectliteType.typeOf Tryz.func93 (by kernel_rfl) (by kernel_rfl) (by kernel_rfl) (by kernel_rfl)
 have h35:=@run_callFunc_extern Tryz.prog 170 _ (ReflectliteType.relation "AssignableTo" ReflectliteType.assignableTo) Tryz.func170 (by kernel_rfl) (by kernel_rfl) (by kernel_rfl) (by kernel_rfl)
 have h11:=@run_callFunc_extern Tryz.prog 94 _ (ReflectliteValue.method (ReflectliteValue.valueError "reflectlite.Value.Elem" 0) ReflectliteValue.elem) Tryz.func94 (by kernel_rfl) (by kernel_rfl) (by kernel_rfl) (by kernel_rfl)
 have h12:=@run_callFunc_extern Tryz.prog 95 _ ReflectliteValue.set Tryz.func95 (by kernel_rfl) (by kernel_rfl) (by kernel_rfl) (by kernel_rfl)
 have tO:=as_typeOf25
 have mA:=as_methodAssignableTo
 have a25:=as_assignable25
 have v25:=as_valueOf25
 have f6:=as_valueOf27
 have f7:=as_type27
 have mK:=as_methodKind
 have mE:=as_methodElem
 have mI:=as_methodImplements
 have k27:=as_kind27
 have k25:=as_kind25
 have e27:=as_elem27
 have i25:=as_implements25
 have n8:=as_isNil27 ⟨w.heap.size,0,none⟩ t ((w.alloc (.cells #[.pointer (some t)] 84)).alloc (.cells #[.pointer (some ⟨12,84,none⟩),.pointer (some ⟨w.heap.size,0,none⟩),.int .u64 150] 106)) (by simp)
 have hlt:0<w.heap.size:=by
  rcases Nat.eq_zero_or_pos w.heap.size with h0|h
  ·simp [World.cell?,h0] at hg
  ·exact h
 have hg2:((w.alloc (.cells #[.pointer (some t)] 84)).alloc (.cells #[.pointer (some ⟨12,84,none⟩),.pointer (some ⟨w.heap.size,0,none⟩),.int .u64 150] 106)).cell? ⟨0,0,none⟩=some (.iface 140 (.agg #[.pointer (some ⟨12,54,none⟩)])):=by
  rw [World.cell?_alloc_lt _ _ ⟨0,0,none⟩ (by simp),World.cell?_alloc_lt _ _ ⟨0,0,none⟩ hlt];exact hg
 have htl:t.block<w.heap.size:=by
  rcases Nat.lt_or_ge t.block w.heap.size with h|h
  ·exact h
  ·simp [World.cell?,Array.getElem?_eq_none h] at ht0
 have el:=as_elemV27 ⟨w.heap.size,0,none⟩ t (((w.alloc (.cells #[.pointer (some t)] 84)).alloc (.cells #[.pointer (some ⟨12,84,none⟩),.pointer (some ⟨w.heap.size,0,none⟩),.int .u64 150] 106)).alloc (.cells #[.pointer (some ⟨12,84,none⟩),.pointer (some ⟨w.heap.size,0,none⟩),.int .u64 150] 106)) (by rw [World.cell?_alloc_lt _ _ ⟨w.heap.size,0,none⟩ (by simp;omega)];simp)
 have st:=as_set25 t ⟨w.heap.size+1+1+1,0,none⟩ e old ((((w.alloc (.cells #[.pointer (some t)] 84)).alloc (.cells #[.pointer (some ⟨12,84,none⟩),.pointer (some ⟨w.heap.size,0,none⟩),.int .u64 150] 106)).alloc (.cells #[.pointer (some ⟨12,84,none⟩),.pointer (some ⟨w.heap.size,0,none⟩),.int .u64 150] 106)).alloc (.cells #[.pointer (some e)] 80))
  (by rw [World.cell?_alloc_at _ _ _ _ (by simp)];rfl)
  (by rw [World.cell?_alloc_lt _ _ t (by simp;omega),World.cell?_alloc_lt _ _ t (by simp;omega),World.cell?_alloc_lt _ _ t (by simp;omega),World.cell?_alloc_lt _ _ t htl];exact ht0)
  (by rw [World.frozen?_alloc_old _ _ t (by simp;omega),World.frozen?_alloc_old _ _ t (by simp;omega),World.frozen?_alloc_old _ _ t (by simp;omega),World.frozen?_alloc_old _ _ t (Nat.ne_of_lt htl)];exact hf0)
 go_enter Tryz.func42,Tryz.ntmps42
 go_wp2
 refine wp_loop_rounds 1 ?_
 rw [rounds_succ]
 go_wp2
 go_ret
 exact ⟨rfl,rfl⟩
end Go.Proofs.YtaamolahbkgofaaGreatDoor.lex
set_option linter.unusedVariables false
set_option linter.unusedSimpArgs false
namespace Go.Proofs.YtaamolahbkgofaaGreatDoor.lex
open Go.RowKit mem lines plain
theorem as_err {W:World} {m t:Nat} (hg:W.cell? ⟨0,0,none⟩=some (.iface 140 (.agg #[.pointer (some ⟨12,54,none⟩)]))) (ht:W.heap[t]?=some (.cells #[.pointer none] 80 (0,0))) :
  Calls Tryz.prog 42 #[.iface 80 (.pointer (some ⟨m,0,none⟩)),.iface 84 (.pointer (some ⟨t,0,none⟩))] W fun ev w'=>ev=.returned (.bool true)∧W.grownBy w' (some t)∧w'.cell? ⟨t,0,none⟩=some (.pointer (some ⟨m,0,none⟩)):=by
 have htl:t<W.heap.size:=lt_of_heap ht
 refine (as_hit ⟨m,0,none⟩ ⟨t,0,none⟩ _ W hg (cells_of_heap ht 0) (free_of_heap ht 0)).mono fun ev w' ⟨h1,h2⟩=>⟨h1, ?_, ?_⟩
 ·rw [h2]
  exact grown_set (grown_below ((((Below.refl _ _).alloc (Nat.le_refl _) _).alloc (by simp) _).alloc (by simp;omega) _ |>.alloc (by simp;omega) _) _) 0 _
 ·rw [h2]
  exact cells_of_heap (set_of_heap ((((((Below.refl _ _).alloc (Nat.le_refl _) _).alloc (by simp) _).alloc (by simp;omega) _ |>.alloc (by simp;omega) _).block t htl).trans ht) 0 _) 0
theorem placeOf_any {w:World} {m:Nat} (hE:ErrAt m w) (hg:w.cell? ⟨0,0,none⟩=some (.iface 140 (.agg #[.pointer (some ⟨12,54,none⟩)]))) :
  Calls Tryz.prog 29 #[.iface 80 (.pointer (some ⟨m,0,none⟩))] w fun e w'=>∃z,e=.returned (.int .i64 z)∧Below w.heap.size w w':=by
 obtain ⟨msg,q,pv,h1,h2⟩:=hE
 have hml:=lt_of_heap h1
 have hql:=lt_of_cell h2
 have h0l:=lt_of_cell hg
 have hb:=below_alloc w (.cells #[.pointer none] 80)
 go_enter Tryz.func29,Tryz.ntmps29
 go_wp2_with (go_at_call 42;refine (as_err ((World.cell?_of_block (hb.block 0 h0l)).trans hg) (heap_alloc_new w _)).mono ?_;rintro e w' ⟨rfl,hgr,hc⟩;have e1:w'.cell? ⟨m,1,none⟩=some (.pointer (some ⟨q,0,none⟩)):=cells_of_heap ((hgr.block m (by simp;omega) (by simp;omega)).trans ((hb.block m hml).trans h1)) 1;have e2:w'.cell? ⟨q,1,none⟩=some (.int .i64 pv):=(World.cell?_of_block ((hgr.block q (by simp;omega) (by simp;omega)).trans (hb.block q hql))).trans h2;have HG:=Lib.hid hgr;clear hgr)
 (first|go_end0|go_ret)
 refine ⟨_,rfl,HG.out.os,HG.out.tape,HG.out.output, ?_,fun i hi=>?_⟩
 ·have:=HG.out.size
  simp at this
  omega
 ·exact (HG.out.block i (by simp;omega) (by simp;omega)).trans (hb.block i hi)
end Go.Proofs.YtaamolahbkgofaaGreatDoor.lex
set_option linter.unusedVariables false
set_option linter.unusedSimpArgs false
namespace Go.Proofs.YtaamolahbkgofaaGreatDoor.lex
open Go.RowKit mem lines plain
theorem lex_grow2 {W W':World} {B b f base:Nat} {r:Option Nat} {s:ByteArray} {x:St} (h:LexS W B b f s x) (hg:W.grownBy W' r) (hr:∀k,r=some k→base≤k) (hb:b<base) (hf:f<base) (hB:B≤base):LexS W' B b f s x:=by
 have hz:=hg.size
 have hne:∀i,i<base→some i≠r:=fun i hi e=>by have:=hr i e.symm;omega
 have hbl:=h.lt
 obtain ⟨p,hp⟩:=h.file
 refine ⟨?_,h.hb,h.hf,h.ne,(hg.block b hbl (hne b hb)).trans h.lex,⟨p,(hg.block f (lt_of_heap hp) (hne f hf)).trans hp⟩,h.sz,h.le⟩
 obtain ⟨W0,rfl,h1,h2⟩:=h.tabs
 refine ⟨W0,rfl,h1,⟨hg.os.trans h2.os,hg.tape.trans h2.tape,hg.output.trans h2.output,Nat.le_trans h2.size hg.size,fun i hi=>?_⟩⟩
 exact (hg.block i (Nat.lt_of_lt_of_le hi h2.size) (hne i (by omega))).trans (h2.block i hi)
/-- What holds at the beginning of a round of Lex's loop. -/
structure LI (np:Bool) (w:World) (s:ByteArray) (x:St) (v:Value) (it:List Item) (W:World):Prop where
 lex:LexS W w.heap.size (w.heap.size+1) w.heap.size s x
 below:Below w.heap.size w W
 lays:Lays W (w.heap.size+2) v it
 size:w.heap.size+2≤W.heap.size
 toks:∃n,(rest s x.at_).length<n∧lx.toks np s.data.toList=(it.map Item.k++(lx.toksN np n x.at_ x.kind.data.toList x.dot (rest s x.at_)).1,(lx.toksN np n x.at_ x.kind.data.toList x.dot (rest s x.at_)).2)
 len:it.length≤x.at_
theorem toks_fault {np:Bool} {n p:Nat} {last:lx.Bs} {dot:Bool} {t:lx.Bs} (hn:t.length<n) (h:lx.nextTok np p last dot t=.fault):lx.toksN np n p last dot t=([],.fault):=by
 cases n with
 | zero=>omega
 | succ n =>
  unfold lx.toksN
  rw [h]
theorem toks_crash {np:Bool} {n p:Nat} {last:lx.Bs} {dot:Bool} {t:lx.Bs} (hn:t.length<n) (h:lx.nextTok np p last dot t=.crash):lx.toksN np n p last dot t=([],.crash):=by
 cases n with
 | zero=>omega
 | succ n =>
  unfold lx.toksN
  rw [h]
theorem toks_eof {np:Bool} {n p:Nat} {last:lx.Bs} {dot d:Bool} {t:lx.Bs} {k:lx.Tk} (hn:t.length<n) (h:lx.nextTok np p last dot t=.tok k d) (hk:k.kind=lx.kEof):lx.toksN np n p last dot t=([k],.ok):=by
 cases n with
 | zero=>omega
 | succ n =>
  unfold lx.toksN
  rw [h]
  simp only
  rw [if_pos hk]
theorem toks_tok {np:Bool} {n p:Nat} {last:lx.Bs} {dot d:Bool} {t:lx.Bs} {k:lx.Tk} (hn:t.length<n) (h:lx.nextTok np p last dot t=.tok k d) (hk:¬k.kind=lx.kEof) :
  ∃m,(t.drop (k.fin-p)).length<m∧lx.toksN np n p last dot t=(k::(lx.toksN np m k.fin k.kind d (t.drop (k.fin-p))).1,(lx.toksN np m k.fin k.kind d (t.drop (k.fin-p))).2):=by
 have ha:=lx.next_at h
 cases n with
 | zero=>omega
 | succ n =>
  refine ⟨n, ?_, ?_⟩
  ·have h1:=ha.more hk
   have h2:=ha.fin
   rw [List.length_drop]
   omega
  ·rw [lx.toksN,h]
   simp only
   rw [if_neg hk]
theorem LI.step {np:Bool} {w W w2 w3 w4:World} {s:ByteArray} {x z:St} {v v' cv:Value} {it:List Item} {o:Obj} {k:lx.Tk} {d:Bool} (h:LI np w s x v it W)
  (ho:lx.nextTok np x.at_ x.kind.data.toList x.dot (rest s x.at_)=.tok k d) (hl:LexS w2 w.heap.size (w.heap.size+1) w.heap.size s z) (hg:W.grownBy w2 (some (w.heap.size+1))) (hB:Bears W w2 z k)
  (hr3:w3.ownsRow w2.heap.size 31 4 cv k.coms.length (k.coms.flatMap comV)) (hb3:Below w2.heap.size w2 w3) (hown:w4.ownsRow (w.heap.size+2) 29 8 v' (it.length+1) (it.flatMap Item.cells++Item.cells ⟨k,z.str,z.base,cv⟩)) (hgrow:(w3.alloc o).grownBy w4 v.ownBlock) :
  Lays w4 (w.heap.size+2) v' (it++[⟨k,z.str,z.base,cv⟩])∧Below w.heap.size w w4∧w.heap.size+2≤w4.heap.size:=by
 have h1:=h.size
 have h2:=hg.size
 have h3:=hb3.size
 have h4:=hgrow.size
 have h5:(w3.alloc o).heap.size=w3.heap.size+1:=by simp
 have hr:∀g,v.ownBlock=some g→w.heap.size+2≤g:=fun g hg=>(h.lays.row.lt g hg).1
 refine ⟨?_,⟨?_, ?_, ?_,by omega,fun i hi=>?_⟩,by omega⟩
 ·refine Lays.add (x:=⟨k,z.str,z.base,cv⟩) (((h.lays.kept (by omega) hg).below hb3).below (below_alloc _ o)) ?_ hB.text hown hgrow
  exact row_below (own_base hr3 (by omega)) (below_alloc _ o)
 ·exact hgrow.os.trans (hb3.os.trans (hg.os.trans h.below.os))
 ·exact hgrow.tape.trans (hb3.tape.trans (hg.tape.trans h.below.tape))
 ·exact hgrow.output.trans (hb3.output.trans (hg.output.trans h.below.output))
 ·rw [hgrow.block i (by omega) (fun e=>by have:=hr i e.symm;omega),heap_alloc_old _ _ (by omega),hb3.block i (by omega),hg.block i (by omega) (by simp;omega),h.below.block i hi]
theorem LI.next {np:Bool} {w W w4:World} {s:ByteArray} {x z:St} {v v':Value} {it:List Item} {y:Item} {k:lx.Tk} {d:Bool} (h:LI np w s x v it W)
  (ho:lx.nextTok np x.at_ x.kind.data.toList x.dot (rest s x.at_)=.tok k d) (hk:¬k.kind=lx.kEof) (hy:y.k=k) (hz1:z.kind=⟨k.kind.toArray⟩) (hz2:z.at_=k.fin) (hz3:z.dot=d) (hl:LexS w4 w.heap.size (w.heap.size+1) w.heap.size s z)
  (hs:Lays w4 (w.heap.size+2) v' (it++[y])∧Below w.heap.size w w4∧w.heap.size+2≤w4.heap.size):LI np w s z v' (it++[y]) w4∧s.size-placeIn w4 (w.heap.size+1)<s.size-placeIn W (w.heap.size+1):=by
 have ha:=lx.next_at ho
 have hm:=ha.more hk
 have hf:=ha.fin
 have hx:=h.lex.le
 rw [rest_length] at hf
 refine ⟨⟨hl,hs.2.1,hs.1,hs.2.2, ?_, ?_⟩, ?_⟩
 ·obtain ⟨n,hn,e⟩:=h.toks
  obtain ⟨m,hm2,e2⟩:=toks_tok hn ho hk
  have er:(rest s x.at_).drop (k.fin-x.at_)=rest s z.at_:=by rw [rest_drop,hz2];congr 1;omega
  rw [er] at hm2 e2
  refine ⟨m,hm2, ?_⟩
  rw [e,e2,hz1,hz2,hz3]
  have e3:(⟨k.kind.toArray⟩:ByteArray).data.toList=k.kind:=by simp
  rw [e3]
  simp [hy]
 ·have:=h.len
  rw [List.length_append,hz2]
  simp
  omega
 ·rw [hl.place,h.lex.place,hz2]
  omega
theorem LI.last {np:Bool} {w W w4:World} {s:ByteArray} {x:St} {v v':Value} {it:List Item} {y:Item} {k:lx.Tk} {d:Bool} (h:LI np w s x v it W)
  (ho:lx.nextTok np x.at_ x.kind.data.toList x.dot (rest s x.at_)=.tok k d) (hk:k.kind=lx.kEof) (hy:y.k=k) (hs:Lays w4 (w.heap.size+2) v' (it++[y])∧Below w.heap.size w w4∧w.heap.size+2≤w4.heap.size) :
  ToksAt w4 v' (lx.toks np s.data.toList).1∧(lx.toks np s.data.toList).2=.ok∧Below w.heap.size w w4:=by
 obtain ⟨n,hn,e⟩:=h.toks
 rw [toks_eof hn ho hk] at e
 have:=hs.1.at
 rw [List.map_append,List.map_cons,hy] at this
 rw [e]
 exact ⟨this,rfl,hs.2.1⟩
theorem LI.fault {np:Bool} {w W w4:World} {s:ByteArray} {x:St} {v:Value} {it:List Item} (h:LI np w s x v it W) (ho:lx.nextTok np x.at_ x.kind.data.toList x.dot (rest s x.at_)=.fault)
  (hg:Grown2 (w.heap.size+1) w.heap.size W w4):ToksAt w4 v (lx.toks np s.data.toList).1∧(lx.toks np s.data.toList).2=.fault∧Below w.heap.size w w4:=by
 obtain ⟨n,hn,e⟩:=h.toks
 rw [toks_fault hn ho] at e
 have hr:∀g,v.ownBlock=some g→w.heap.size+2≤g:=fun g hg=>(h.lays.row.lt g hg).1
 have hsz:=h.size
 have hL:Lays w4 (w.heap.size+2) v it:=by
  have key:∀{e n size:Nat} {u:Value} {xs:List Value},W.ownsRow (w.heap.size+2) e size u n xs→w4.ownsRow (w.heap.size+2) e size u n xs:=by
   intro e n size u xs hrow
   obtain ⟨r1,r2|⟨g,c,cur,r3,r4,r5,r6⟩⟩:=hrow
   ·exact ⟨r1,.inl r2⟩
   ·exact ⟨r1,.inr ⟨g,c,cur,r3,r4,(hg.block g (lt_of_heap r5) (by omega) (by omega)).trans r5,r6⟩⟩
  exact ⟨key h.lays.row,fun y hy=>key (h.lays.coms y hy),h.lays.text⟩
 rw [e]
 simp only [List.append_nil]
 refine ⟨hL.at,trivial,hg.os.trans h.below.os,hg.tape.trans h.below.tape,hg.output.trans h.below.output,Nat.le_trans h.below.size hg.size,fun i hi=>?_⟩
 exact (hg.block i (Nat.lt_of_lt_of_le hi h.below.size) (by omega) (by omega)).trans (h.below.block i hi)
theorem LI.nocrash {np:Bool} {w W:World} {s:ByteArray} {x:St} {v:Value} {it:List Item} (h:LI np w s x v it W) (hcr:(lx.toks np s.data.toList).2≠.crash):lx.nextTok np x.at_ x.kind.data.toList x.dot (rest s x.at_)≠.crash:=by
 intro ho
 obtain ⟨n,hn,e⟩:=h.toks
 rw [toks_crash hn ho] at e
 rw [e] at hcr
 exact hcr rfl
theorem kind_is {K:ByteArray} {k l:lx.Bs} (hK:K=⟨k.toArray⟩):(K.toList==l)=true↔k=l:=by
 subst hK
 rw [Lib.toList_data,beq_iff_eq]
set_option maxHeartbeats 4000000 in
set_option maxRecDepth 100000 in
theorem lex_any {w:World} {s:ByteArray} (hs:s.size≤20000) (hT:Lib0 w) (hcr:(lx.toks false s.data.toList).2≠.crash) :
  Calls Tryz.prog 12 #[.string s] w (LexOut s w):=by
 have HL:=Lib.hid (lexerOf_any s w hs hT.tabs)
 have HE:=Lib.hid hT.err
 clear hT
 go_enter Tryz.func12,Tryz.ntmps12
 go_wp2_with (go_at_call 27;refine HL.out.mono ?_;rintro e W0 ⟨rfl,hl,hb⟩;have HL0:=Lib.hid hl;have HB0:=Lib.hid hb;clear hl hb)
 go_loopw [2] (fun uv wr=>∃x it,Hid (LI false w s x uv it wr)) (fun _ wr=>s.size-placeIn wr (w.heap.size+1))
 case atStart=>exact ⟨St.new,[],HL0.out,HB0.out,Lays.nil _ _,by have:=HL0.out.lt;omega,⟨s.data.toList.length+1,by simp [rest,St.new],by rfl⟩,Nat.zero_le _⟩
 case round =>
  obtain ⟨x,it,HI⟩:=hrel
  obtain ⟨o,HO⟩:∃o,Hid (lx.nextTok false x.at_ x.kind.data.toList x.dot (rest s x.at_)=o):=⟨_,rfl⟩
  cases o with
  | crash=>exact absurd HO.out (HI.out.nocrash hcr)
  | fault =>
   go_wp2_with (first
    | (go_at_call 28;refine (nt_any HI.out.lex (by rw [HO.out];simp)).mono ?_;rw [HO.out];rintro e w2 ⟨m,rfl,hm,hEr,hg⟩;have HEr:=Lib.hid hEr;have HG:=Lib.hid hg;have hE2:w2.cell? ⟨0,0,none⟩=some (.iface 140 (.agg #[.pointer (some ⟨12,54,none⟩)])):=(HI.out.fault HO.out hg).2.2.cell (lt_of_cell HE.out) |>.trans HE.out;have HE2:=Lib.hid hE2;clear hm hEr hg hE2)
    | (go_at_call 29;refine (placeOf_any HEr.out HE2.out).mono ?_;rintro e w3 ⟨z,rfl,hb⟩;have HF:=Lib.hid (HI.out.fault HO.out HG.out);have HB3:=Lib.hid hb;clear hb))
   refine bodyPost_ret (v:=.tuple #[u2,.int .i64 z,.bool false]) (by simp [results,Tryz.results12,go_sem]) rfl ⟨u2,z, ?_,HF.out.1.below HB3.out,HF.out.2.2.trans (HB3.out.mono HF.out.2.2.size)⟩
   rw [HF.out.2.1]
   rfl
  | tok k d =>
   have hlen:k.coms.length≤20000:=by
    have h1:=(lx.next_at HO.out).coms
    rw [rest_length] at h1
    omega
   have hitn:it.length≤20000:=by have h1:=HI.out.len;have h2:=HI.out.lex.le;omega
   obtain ⟨i0,hi0,hz0,hz1,hz2⟩:=info_parts tokInfo
   have hbb:∀g,u2.ownBlock=some g→w.heap.size+2≤g:=fun g hg=>(HI.out.lays.row.lt g hg).1
   have HBB:=Lib.hid hbb
   clear hbb
   go_wp2_with (first
    | (go_at_call 28;refine (nt_any HI.out.lex (by rw [HO.out];simp)).mono ?_;rw [HO.out];rintro e w2 ⟨z,rfl,hl,hg,hB,hd,hla⟩;have HL2:=Lib.hid hl;have HG:=Lib.hid hg;have HB:=Lib.hid hB;have HD:=Lib.hid hd;have HLA:=Lib.hid hla;clear hl hg hB hd hla;have q1:w2.cell? ⟨w.heap.size+1,1,none⟩=some (.string z.kind):=HL2.out.cell 1;have q2:w2.cell? ⟨w.heap.size+1,2,none⟩=some z.coms:=HL2.out.cell 2;have q3:w2.cell? ⟨w.heap.size+1,3,none⟩=some (.string z.sp):=HL2.out.cell 3;have q4:w2.cell? ⟨w.heap.size+1,4,none⟩=some (.string z.raw):=HL2.out.cell 4;have q5:w2.cell? ⟨w.heap.size+1,5,none⟩=some (.string z.str):=HL2.out.cell 5;have q6:w2.cell? ⟨w.heap.size+1,6,none⟩=some (.int .i64 z.base):=HL2.out.cell 6;have q7:w2.cell? ⟨w.heap.size+1,7,none⟩=some (.int .i64 (z.pos:Int)):=HL2.out.cell 7;have q8:w2.cell? ⟨w.heap.size+1,8,none⟩=some (.int .i64 (z.fin:Int)):=HL2.out.cell 8)
    | (go_at_call 30;refine (tokenOf_any z.kind z.sp z.raw z.str z.base (z.pos:Int) (z.fin:Int) k.coms HB.out.coms hlen).mono ?_;rintro e w3 ⟨cv,rfl,hr3,hb3⟩;have HR3:=Lib.hid hr3;have HB3:=Lib.hid hb3;clear hr3 hb3)
    | (at_builtin;refine wpList_append_lies _ rfl _ _ 24 rfl (w.heap.size+2) 29 i0 _ 8 112 Tryz.underlying24 hi0 hz0 hz1 hz2 rfl (by decide) u2 it.length (it.flatMap Item.cells) rfl (((HI.out.lays.kept (by omega) HG.out).below HB3.out).row.alloc _) ⟨w3.heap.size,0,none⟩ 1 1 (Item.cells ⟨k,z.str,z.base,cv⟩) rfl rfl (World.news_of_block ((heap_alloc_new _ _).trans (by rw [HB.out.kind,HB.out.sp,HB.out.raw,HB.out.pos,HB.out.fin]))) (by have h1:=own_one HR3.out;simp only [Item.cells,List.mem_cons,List.not_mem_nil,or_false];rintro y (rfl|rfl|rfl|rfl|rfl|rfl|rfl|rfl) <;> first|rfl|exact h1) (by decide) (by unfold maxLen;omega) (by omega) (by have h1:=HI.out.size;have h2:=HG.out.size;have h3:=HB3.out.size;simp;omega) _ rfl ?_;intro g2 cap2 w4 hown hgrow hat hlt2;have HL4:=Lib.hid (lex_grow2 ((HL2.out.below HB3.out).below (below_alloc _ _)) hgrow HBB.out (by omega) (by omega) (by omega));have HS:=Lib.hid (HI.out.step HO.out HL2.out HG.out HB.out HR3.out HB3.out hown hgrow);clear hown hgrow hat hlt2;have p1:w4.cell? ⟨w.heap.size+1,1,none⟩=some (.string z.kind):=HL4.out.cell 1))
   ·have hk:k.kind=lx.kEof:=(kind_is HB.out.kind).1 (by assumption)
    have HF:=HI.out.last HO.out hk rfl HS.out
    refine bodyPost_ret (v:=.tuple #[.slice (some ⟨g2,0,none⟩) (it.length+1) cap2,.int .i64 0,.bool true]) (by simp [results,Tryz.results12,go_sem]) rfl ⟨_,0, ?_,HF.1,HF.2.2⟩
    rw [HF.2.1]
    rfl
   ·have hk:¬k.kind=lx.kEof:=fun e=>by
     have h1:=(kind_is HB.out.kind).2 e
     have h2:(z.kind.toList==[60,101,111,102,62])=false:=by assumption
     rw [show lx.kEof=[60,101,111,102,62] from rfl,h2] at h1
     cases h1
    have HN:=HI.out.next HO.out hk rfl HB.out.kind HB.out.at_ HD.out HL4.out HS.out
    exact ⟨⟨z,_,HN.1⟩,HN.2⟩
end Go.Proofs.YtaamolahbkgofaaGreatDoor.lex
set_option linter.unusedVariables false
set_option linter.unusedSimpArgs false
namespace Go.Proofs.YtaamolahbkgofaaGreatDoor.lex
open Go.RowKit mem lines plain
theorem zzLoose_any {w:World} {B b f:Nat} {s:ByteArray} {x:St} {k:lx.Tk} {d:Bool} (h:LexS w B b f s x) (ho:lx.nextTok true x.at_ x.kind.data.toList x.dot (rest s x.at_)=.tok k d) :
  Calls Tryz.prog 36 #[.pointer (some ⟨b,0,none⟩)] w (NextPost B b f s x (.tok k d) w):=by
 have H:=Lib.hid (next_any true h (by rw [ho];simp))
 rw [ho] at H
 clear h
 go_enter Tryz.func36,Tryz.ntmps36
 go_wp2_with (go_at_call 41;refine H.out.mono ?_;rintro e w2 ⟨z,rfl,hl,hg,hB,hd,hla⟩;have HL2:=Lib.hid hl;have HG:=Lib.hid hg;have HB:=Lib.hid hB;have HD:=Lib.hid hd;have HLA:=Lib.hid hla;clear hl hg hB hd hla)
 (first|go_end0|go_ret)
 exact ⟨z,rfl,HL2.out,HG.out,HB.out,HD.out,HLA.out⟩
/-- What Loose comes to. -/
def LooseOut (s:ByteArray) (w:World) (e:Ending) (w':World):Prop :=
 ∃v,e=.returned v∧ToksAt w' v (lx.toks true s.data.toList).1∧Below w.heap.size w w'
set_option maxHeartbeats 4000000 in
set_option maxRecDepth 100000 in
theorem loose_any {w:World} {s:ByteArray} (hs:s.size≤20000) (hT:Lib0 w) (hcr:(lx.toks true s.data.toList).2=.ok) :
  Calls Tryz.prog 20 #[.string s] w (LooseOut s w):=by
 have HL:=Lib.hid (lexerOf_any s w hs hT.tabs)
 clear hT
 have HC:=Lib.hid hcr
 clear hcr
 go_enter Tryz.func20,Tryz.ntmps20
 go_wp2_with (go_at_call 27;refine HL.out.mono ?_;rintro e W0 ⟨rfl,hl,hb⟩;have HL0:=Lib.hid hl;have HB0:=Lib.hid hb;clear hl hb)
 go_loopw [2] (fun uv wr=>∃x it,Hid (LI true w s x uv it wr)) (fun _ wr=>s.size-placeIn wr (w.heap.size+1))
 case atStart=>exact ⟨St.new,[],HL0.out,HB0.out,Lays.nil _ _,by have:=HL0.out.lt;omega,⟨s.data.toList.length+1,by simp [rest,St.new],by rfl⟩,Nat.zero_le _⟩
 case round =>
  obtain ⟨x,it,HI⟩:=hrel
  obtain ⟨o,HO⟩:∃o,Hid (lx.nextTok true x.at_ x.kind.data.toList x.dot (rest s x.at_)=o):=⟨_,rfl⟩
  cases o with
  | crash=>exact absurd HO.out (HI.out.nocrash (by rw [HC.out];simp))
  | fault =>
   exfalso
   obtain ⟨n,hn,e⟩:=HI.out.toks
   rw [toks_fault hn HO.out] at e
   have:=HC.out
   rw [e] at this
   cases this
  | tok k d =>
   have hlen:k.coms.length≤20000:=by
    have h1:=(lx.next_at HO.out).coms
    rw [rest_length] at h1
    omega
   have hitn:it.length≤20000:=by have h1:=HI.out.len;have h2:=HI.out.lex.le;omega
   obtain ⟨i0,hi0,hz0,hz1,hz2⟩:=info_parts tokInfo
   have hbb:∀g,u2.ownBlock=some g→w.heap.size+2≤g:=fun g hg=>(HI.out.lays.row.lt g hg).1
   have HBB:=Lib.hid hbb
   clear hbb
   go_wp2_with (first
    | (go_at_call 36;refine (zzLoose_any HI.out.lex HO.out).mono ?_;rintro e w2 ⟨z,rfl,hl,hg,hB,hd,hla⟩;have HL2:=Lib.hid hl;have HG:=Lib.hid hg;have HB:=Lib.hid hB;have HD:=Lib.hid hd;have HLA:=Lib.hid hla;clear hl hg hB hd hla;have q1:w2.cell? ⟨w.heap.size+1,1,none⟩=some (.string z.kind):=HL2.out.cell 1;have q2:w2.cell? ⟨w.heap.size+1,2,none⟩=some z.coms:=HL2.out.cell 2;have q3:w2.cell? ⟨w.heap.size+1,3,none⟩=some (.string z.sp):=HL2.out.cell 3;have q4:w2.cell? ⟨w.heap.size+1,4,none⟩=some (.string z.raw):=HL2.out.cell 4;have q5:w2.cell? ⟨w.heap.size+1,5,none⟩=some (.string z.str):=HL2.out.cell 5;have q6:w2.cell? ⟨w.heap.size+1,6,none⟩=some (.int .i64 z.base):=HL2.out.cell 6;have q7:w2.cell? ⟨w.heap.size+1,7,none⟩=some (.int .i64 (z.pos:Int)):=HL2.out.cell 7;have q8:w2.cell? ⟨w.heap.size+1,8,none⟩=some (.int .i64 (z.fin:Int)):=HL2.out.cell 8)
    | (go_at_call 30;refine (tokenOf_any z.kind z.sp z.raw z.str z.base (z.pos:Int) (z.fin:Int) k.coms HB.out.coms hlen).mono ?_;rintro e w3 ⟨cv,rfl,hr3,hb3⟩;have HR3:=Lib.hid hr3;have HB3:=Lib.hid hb3;clear hr3 hb3)
    | (at_builtin;refine wpList_append_lies _ rfl _ _ 24 rfl (w.heap.size+2) 29 i0 _ 8 112 Tryz.underlying24 hi0 hz0 hz1 hz2 rfl (by decide) u2 it.length (it.flatMap Item.cells) rfl (((HI.out.lays.kept (by omega) HG.out).below HB3.out).row.alloc _) ⟨w3.heap.size,0,none⟩ 1 1 (Item.cells ⟨k,z.str,z.base,cv⟩) rfl rfl (World.news_of_block ((heap_alloc_new _ _).trans (by rw [HB.out.kind,HB.out.sp,HB.out.raw,HB.out.pos,HB.out.fin]))) (by have h1:=own_one HR3.out;simp only [Item.cells,List.mem_cons,List.not_mem_nil,or_false];rintro y (rfl|rfl|rfl|rfl|rfl|rfl|rfl|rfl) <;> first|rfl|exact h1) (by decide) (by unfold maxLen;omega) (by omega) (by have h1:=HI.out.size;have h2:=HG.out.size;have h3:=HB3.out.size;simp;omega) _ rfl ?_;intro g2 cap2 w4 hown hgrow hat hlt2;have HL4:=Lib.hid (lex_grow2 ((HL2.out.below HB3.out).below (below_alloc _ _)) hgrow HBB.out (by omega) (by omega) (by omega));have HS:=Lib.hid (HI.out.step HO.out HL2.out HG.out HB.out HR3.out HB3.out hown hgrow);clear hown hgrow hat hlt2;have p1:w4.cell? ⟨w.heap.size+1,1,none⟩=some (.string z.kind):=HL4.out.cell 1))
   ·have hk:k.kind=lx.kEof:=(kind_is HB.out.kind).1 (by assumption)
    have HF:=HI.out.last HO.out hk rfl HS.out
    go_ret
    exact ⟨_,rfl,HF.1,HF.2.2⟩
   ·have hk:¬k.kind=lx.kEof:=fun e=>by
     have h1:=(kind_is HB.out.kind).2 e
     have h2:(z.kind.toList==[60,101,111,102,62])=false:=by assumption
     rw [show lx.kEof=[60,101,111,102,62] from rfl,h2] at h1
     cases h1
    have HN:=HI.out.next HO.out hk rfl HB.out.kind HB.out.at_ HD.out HL4.out HS.out
    exact ⟨⟨z,_,HN.1⟩,HN.2⟩
theorem toks_a:(lx.toks false [97]).1.length=2∧(lx.toks false [97]).2=.ok∧∃h:0<(lx.toks false [97]).1.length,(lx.toks false [97]).1[0].text=[97]∧(lx.toks false [97]).1[0].kind≠lx.kBad:=by
 have e:lx.toks false [97]=([⟨lx.kIdent,[],[],[97],[97],0,0,1⟩,⟨lx.kEof,[],[],[],[],0,1,1⟩],.ok):=by rfl
 rw [e]
 refine ⟨rfl,rfl,by simp,rfl,by decide⟩
set_option maxRecDepth 100000 in
/-- The laws' own question: a word is a token. -/
theorem lexes_any {w:World} (hT:Lib0 w):Calls Tryz.prog 11 #[] w fun e w'=>e=.returned (.bool true)∧Below w.heap.size w w':=by
 have hL:=lex_any (w:=w) (s:=⟨#[97]⟩) (by decide) hT (by rw [show (⟨#[97]⟩:ByteArray).data.toList=[97] from rfl,toks_a.2.1];simp)
 have HL:=Lib.hid hL
 clear hL hT
 go_enter Tryz.func11,Tryz.ntmps11
 have H:∀v W,ToksAt W v (lx.toks false [97]).1→∃g cap,v=.slice (some ⟨g,0,none⟩) 2 cap∧W.cell? ⟨g,3,none⟩=some (.string ⟨#[97]⟩):=by
  intro v W h
  obtain ⟨h1,h2,h3,h4,h5⟩:=toks_a
  rcases h with ⟨_,h⟩|⟨g,cap,hv,hg,h⟩
  ·rw [h] at h1
   cases h1
  ·obtain ⟨cv,ht⟩:=h 0 h3
   obtain ⟨t,t1,t2⟩:=ht.text
   refine ⟨g,cap,by rw [hv,h1], ?_⟩
   rcases t2 with t2|t2
   ·exact absurd t2 h5
   ·rw [t2,h4] at t1
    simpa using t1
 have HH:=Lib.hid H
 clear H
 go_wp2_with (go_at_call 12;refine HL.out.mono ?_;rintro e w1 ⟨v,z,rfl,ht,hb⟩;have HB:=Lib.hid hb;clear hb;obtain ⟨g,cap,rfl,hc⟩:=HH.out v w1 ht;have E:=toks_a.2.1;rw [show (⟨#[97]⟩:ByteArray).data.toList=[97] from rfl,E,show okB .ok=true from rfl];clear ht E)
 go_ret
 exact ⟨rfl,HB.out⟩
/-- What every law of tokens comes to. -/
def Yes (w:World) (e:Ending) (w':World):Prop:=e=.returned (.bool true)∧Below w.heap.size w w'
end Go.Proofs.YtaamolahbkgofaaGreatDoor.lex
