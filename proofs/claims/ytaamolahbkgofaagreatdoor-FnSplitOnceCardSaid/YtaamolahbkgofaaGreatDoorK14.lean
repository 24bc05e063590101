/-
  consumeQuotedContent's loop: its body, its frame, its relation. Rounds of consumeQuotedContent's loop: a plain byte. Rounds of consumeQuotedContent's loop: a backslash and a byte that stands for itself or for one byte; a raw text's backslash. Conditions: of each, in its statement.
-/
import Derived.Test.YtaamolahbkgofaaGreatDoorK04
import Derived.Test.YtaamolahbkgofaaGreatDoorK11
import Derived.Test.YtaamolahbkgofaaGreatDoorK03
import Derived.Deep.RegionHeld3
namespace Go.Proofs.YtaamolahbkgofaaGreatDoor.lex
open Go.RowKit mem lines
/-- The first loop of a code. -/
def firstLoop:Code→Option Code
 | .loop c=>some c
 | .seq a b=>match firstLoop a with
  | some c=>some c
  | none=>firstLoop b
 | .block _ c=>firstLoop c
 | .scope c=>firstLoop c
 | .cond _ a b=>match firstLoop a with
  | some c=>some c
  | none=>firstLoop b
 | _=>none
noncomputable def qBody:Code:=((Tryz.f86.body.bind firstLoop).getD .skip)
set_option maxRecDepth 100000 in
def all512 (g:Nat→Value):List Value:=g 0::g 1::g 2::g 3::g 4::g 5::g 6::g 7::g 8::g 9::g 10::g 11::g 12::g 13::g 14::g 15::g 16::g 17::g 18::g 19::g 20::g 21::g 22::g 23::g 24::g 25::g 26::g 27::g 28::g 29::g 30::g 31::g 32::g 33::g 34::g 35::g 36::g 37::g 38::g 39::g 40::g 41::g 42::g 43::g 44::g 45::g 46::g 47::g 48::g 49::g 50::g 51::g 52::g 53::g 54::g 55::g 56::g 57::g 58::g 59::g 60::g 61::g 62::g 63::g 64::g 65::g 66::g 67::g 68::g 69::g 70::g 71::g 72::g 73::g 74::g 75::g 76::g 77::g 78::g 79::g 80::g 81::g 82::g 83::g 84::g 85::g 86::g 87::g 88::g 89::g 90::g 91::g 92::g 93::g 94::g 95::g 96::g 97::g 98::g 99::g 100::g 101::g 102::g 103::g 104::g 105::g 106::g 107::g 108::g 109::g 110::g 111::g 112::g 113::g 114::g 115::g 116::g 117::g 118::g 119::g 120::g 121::g 122::g 123::g 124::g 125::g 126::g 127::g 128::g 129::g 130::g 131::g 132::g 133::g 134::g 135::g 136::g 137::g 138::g 139::g 140::g 141::g 142::g 143::g 144::g 145::g 146::g 147::g 148::g 149::g 150::g 151::g 152::g 153::g 154::g 155::g 156::g 157::g 158::g 159::g 160::g 161::g 162::g 163::g 164::g 165::g 166::g 167::g 168::g 169::g 170::g 171::g 172::g 173::g 174::g 175::g 176::g 177::g 178::g 179::g 180::g 181::g 182::g 183::g 184::g 185::g 186::g 187::g 188::g 189::g 190::g 191::g 192::g 193::g 194::g 195::g 196::g 197::g 198::g 199::g 200::g 201::g 202::g 203::g 204::g 205::g 206::g 207::g 208::g 209::g 210::g 211::g 212::g 213::g 214::g 215::g 216::g 217::g 218::g 219::g 220::g 221::g 222::g 223::g 224::g 225::g 226::g 227::g 228::g 229::g 230::g 231::g 232::g 233::g 234::g 235::g 236::g 237::g 238::g 239::g 240::g 241::g 242::g 243::g 244::g 245::g 246::g 247::g 248::g 249::g 250::g 251::g 252::g 253::g 254::g 255::g 256::g 257::g 258::g 259::g 260::g 261::g 262::g 263::g 264::g 265::g 266::g 267::g 268::g 269::g 270::g 271::g 272::g 273::g 274::g 275::g 276::g 277::g 278::g 279::g 280::g 281::g 282::g 283::g 284::g 285::g 286::g 287::g 288::g 289::g 290::g 291::g 292::g 293::g 294::g 295::g 296::g 297::g 298::g 299::g 300::g 301::g 302::g 303::g 304::g 305::g 306::g 307::g 308::g 309::g 310::g 311::g 312::g 313::g 314::g 315::g 316::g 317::g 318::g 319::g 320::g 321::g 322::g 323::g 324::g 325::g 326::g 327::g 328::g 329::g 330::g 331::g 332::g 333::g 334::g 335::g 336::g 337::g 338::g 339::g 340::g 341::g 342::g 343::g 344::g 345::g 346::g 347::g 348::g 349::g 350::g 351::g 352::g 353::g 354::g 355::g 356::g 357::g 358::g 359::g 360::g 361::g 362::g 363::g 364::g 365::g 366::g 367::g 368::g 369::g 370::g 371::g 372::g 373::g 374::g 375::g 376::g 377::g 378::g 379::g 380::g 381::g 382::g 383::g 384::g 385::g 386::g 387::g 388::g 389::g 390::g 391::g 392::g 393::g 394::g 395::g 396::g 397::g 398::g 399::g 400::g 401::g 402::g 403::g 404::g 405::g 406::g 407::g 408::g 409::g 410::g 411::g 412::g 413::g 414::g 415::g 416::g 417::g 418::g 419::g 420::g 421::g 422::g 423::g 424::g 425::g 426::g 427::g 428::g 429::g 430::g 431::g 432::g 433::g 434::g 435::g 436::g 437::g 438::g 439::g 440::g 441::g 442::g 443::g 444::g 445::g 446::g 447::g 448::g 449::g 450::g 451::g 452::g 453::g 454::g 455::g 456::g 457::g 458::g 459::g 460::g 461::g 462::g 463::g 464::g 465::g 466::g 467::g 468::g 469::g 470::g 471::g 472::g 473::g 474::g 475::g 476::g 477::g 478::g 479::g 480::g 481::g 482::g 483::g 484::g 485::g 486::g 487::g 488::g 489::g 490::g 491::g 492::g 493::g 494::g 495::g 496::g 497::g 498::g 499::g 500::g 501::g 502::g 503::g 504::g 505::g 506::g 507::g 508::g 509::g 510::g 511::[]
set_option maxRecDepth 100000 in
theorem all512_eq (g:Nat→Value):all512 g=(List.range 512).map g:=by kernel_rfl
set_option maxRecDepth 100000 in
/-- The frame at a round's beginning. -/
def QFr (u:Nat→Value) (b:Nat) (q:ByteArray) (raw uni:Bool) (nm:ByteArray) (np:Bool) (i:Int) (v:Value) (err:Bool):Act :=
 ⟨((.pointer (some ⟨b,0,none⟩))::(.string q)::(.bool raw)::(.bool uni)::(.string nm)::(.bool np)::u 6::u 7::u 8::u 9::u 10::u 11::(.string ⟨#[]⟩)::(.bool false)::(.int .i64 i)::v::(.bool err)::u 17::u 18::u 19::u 20::u 21::u 22::u 23::u 24::u 25::u 26::u 27::u 28::u 29::u 30::u 31::u 32::u 33::u 34::u 35::u 36::u 37::u 38::u 39::u 40::u 41::u 42::u 43::u 44::u 45::u 46::u 47::u 48::u 49::u 50::u 51::u 52::u 53::u 54::u 55::u 56::u 57::u 58::u 59::u 60::u 61::u 62::u 63::u 64::u 65::u 66::u 67::u 68::u 69::u 70::u 71::u 72::u 73::u 74::u 75::u 76::u 77::u 78::u 79::u 80::u 81::u 82::u 83::u 84::u 85::u 86::u 87::u 88::u 89::u 90::u 91::u 92::u 93::u 94::u 95::u 96::u 97::u 98::u 99::u 100::u 101::u 102::u 103::u 104::u 105::u 106::u 107::u 108::u 109::u 110::u 111::u 112::u 113::u 114::u 115::u 116::u 117::u 118::u 119::u 120::u 121::u 122::u 123::u 124::u 125::u 126::u 127::u 128::u 129::u 130::u 131::u 132::u 133::u 134::u 135::u 136::u 137::u 138::u 139::u 140::u 141::u 142::u 143::u 144::u 145::u 146::u 147::u 148::u 149::u 150::u 151::u 152::u 153::u 154::u 155::u 156::u 157::u 158::u 159::u 160::u 161::u 162::u 163::u 164::u 165::u 166::u 167::u 168::u 169::u 170::u 171::u 172::u 173::u 174::u 175::u 176::u 177::u 178::u 179::u 180::u 181::u 182::u 183::u 184::u 185::u 186::u 187::u 188::u 189::u 190::u 191::u 192::u 193::u 194::u 195::u 196::u 197::u 198::u 199::u 200::u 201::u 202::u 203::u 204::u 205::u 206::u 207::u 208::u 209::u 210::u 211::u 212::u 213::u 214::u 215::u 216::u 217::u 218::u 219::u 220::u 221::u 222::u 223::u 224::u 225::u 226::u 227::u 228::u 229::u 230::u 231::u 232::u 233::u 234::u 235::u 236::u 237::u 238::u 239::u 240::u 241::u 242::u 243::u 244::u 245::u 246::u 247::u 248::u 249::u 250::u 251::u 252::u 253::u 254::u 255::u 256::u 257::u 258::u 259::u 260::u 261::u 262::u 263::u 264::u 265::u 266::u 267::u 268::u 269::u 270::u 271::u 272::u 273::u 274::u 275::u 276::u 277::u 278::u 279::u 280::u 281::u 282::u 283::u 284::u 285::u 286::u 287::u 288::u 289::u 290::u 291::u 292::u 293::u 294::u 295::u 296::u 297::u 298::u 299::u 300::u 301::u 302::u 303::u 304::u 305::u 306::u 307::u 308::u 309::u 310::u 311::u 312::u 313::u 314::u 315::u 316::u 317::u 318::u 319::u 320::u 321::u 322::u 323::u 324::u 325::u 326::u 327::u 328::u 329::u 330::u 331::u 332::u 333::u 334::u 335::u 336::u 337::u 338::u 339::u 340::u 341::u 342::u 343::u 344::u 345::u 346::u 347::u 348::u 349::u 350::u 351::u 352::u 353::u 354::u 355::u 356::u 357::u 358::u 359::u 360::u 361::u 362::u 363::u 364::u 365::u 366::u 367::u 368::u 369::u 370::u 371::u 372::u 373::u 374::u 375::u 376::u 377::u 378::u 379::u 380::u 381::u 382::u 383::u 384::u 385::u 386::u 387::u 388::u 389::u 390::u 391::u 392::u 393::u 394::u 395::u 396::u 397::u 398::u 399::u 400::u 401::u 402::u 403::u 404::u 405::u 406::u 407::u 408::u 409::u 410::u 411::u 412::u 413::u 414::u 415::u 416::u 417::u 418::u 419::u 420::u 421::u 422::u 423::u 424::u 425::u 426::u 427::u 428::u 429::u 430::u 431::u 432::u 433::u 434::u 435::u 436::u 437::u 438::u 439::u 440::u 441::u 442::u 443::u 444::u 445::u 446::u 447::u 448::u 449::u 450::u 451::u 452::u 453::u 454::u 455::u 456::u 457::u 458::u 459::u 460::u 461::u 462::u 463::u 464::u 465::u 466::u 467::u 468::u 469::u 470::u 471::u 472::u 473::u 474::u 475::u 476::u 477::u 478::u 479::u 480::u 481::u 482::u 483::u 484::u 485::u 486::u 487::u 488::u 489::u 490::u 491::u 492::u 493::u 494::u 495::u 496::u 497::u 498::u 499::u 500::u 501::u 502::u 503::u 504::u 505::u 506::u 507::u 508::u 509::u 510::u 511::[]).toArray,[]⟩
/-- A frame that is one. -/
structure QAt (a:Act) (b:Nat) (q:ByteArray) (raw uni:Bool) (nm:ByteArray) (np:Bool) (i:Int) (v:Value) (err:Bool):Prop where
 size:a.tmps.size=512
 defers:a.defers=[]
 s0:a.tmps[0]?=some (.pointer (some ⟨b,0,none⟩))
 s1:a.tmps[1]?=some (.string q)
 s2:a.tmps[2]?=some (.bool raw)
 s3:a.tmps[3]?=some (.bool uni)
 s4:a.tmps[4]?=some (.string nm)
 s5:a.tmps[5]?=some (.bool np)
 s12:a.tmps[12]?=some (.string ⟨#[]⟩)
 s13:a.tmps[13]?=some (.bool false)
 s14:a.tmps[14]?=some (.int .i64 i)
 s15:a.tmps[15]?=some (v)
 s16:a.tmps[16]?=some (.bool err)
set_option maxRecDepth 100000 in
theorem QAt.is {a:Act} {b:Nat} {q:ByteArray} {raw uni:Bool} {nm:ByteArray} {np:Bool} {i:Int} {v:Value} {err:Bool} (h:QAt a b q raw uni nm np i v err):∃u,a=QFr u b q raw uni nm np i v err:=by
 obtain ⟨g,hg⟩:∃g:Nat→Value,∀n,g n=(a.tmps[n]?).getD .nilIface:=⟨_,fun _=>rfl⟩
 refine ⟨g, ?_⟩
 have e:a.tmps.toList=all512 g:=by
  rw [all512_eq]
  apply List.ext_getElem
  ·simp [h.size]
  ·intro n h1 h2
   simp at h1
   simp [hg,h1]
 have e0:g 0=.pointer (some ⟨b,0,none⟩):=by rw [hg,h.s0];rfl
 have e1:g 1=.string q:=by rw [hg,h.s1];rfl
 have e2:g 2=.bool raw:=by rw [hg,h.s2];rfl
 have e3:g 3=.bool uni:=by rw [hg,h.s3];rfl
 have e4:g 4=.string nm:=by rw [hg,h.s4];rfl
 have e5:g 5=.bool np:=by rw [hg,h.s5];rfl
 have e12:g 12=.string ⟨#[]⟩:=by rw [hg,h.s12];rfl
 have e13:g 13=.bool false:=by rw [hg,h.s13];rfl
 have e14:g 14=.int .i64 i:=by rw [hg,h.s14];rfl
 have e15:g 15=v:=by rw [hg,h.s15];rfl
 have e16:g 16=.bool err:=by rw [hg,h.s16];rfl
 have hd:=h.defers
 obtain ⟨⟨t⟩,d⟩:=a
 simp only at e hd
 subst hd e
 unfold QFr
 rw [←e0,←e1,←e2,←e3,←e4,←e5,←e12,←e13,←e14,←e15,←e16]
 rfl
set_option maxRecDepth 100000 in
theorem QAt.of (u:Nat→Value) (b:Nat) (q:ByteArray) (raw uni:Bool) (nm:ByteArray) (np:Bool) (i:Int) (v:Value) (err:Bool):QAt (QFr u b q raw uni nm np i v err) b q raw uni nm np i v err:=by
 refine ⟨rfl,rfl,rfl,rfl,rfl,rfl,rfl,rfl,rfl,rfl,rfl,rfl,rfl⟩
/-- What the inside of a quoted token comes to. -/
def QPost (B b f:Nat) (s:ByteArray) (x:St) (o:lx.QOut) (w:World) (e:Ending) (w':World):Prop :=
 match o with
 | .ok len content=>Says (.tuple #[.string ⟨content.toArray⟩,.bool false]) B b f s { x with at_:=x.at_+len } w e w'
 | .bad len=>Says (.tuple #[.string ⟨#[]⟩,.bool true]) B b f s { x with at_:=x.at_+len } w e w'
 | .fault=>Faults b f w e w'
 | .crash=>True
/-- What holds at a round's beginning, k bytes behind the token's, the content l being gathered. -/
structure QI (w:World) (B b f:Nat) (s:ByteArray) (x:St) (Q:lx.Bs) (raw uni idn np:Bool) (o:lx.QOut) (k:Nat) (v:Value) (l:lx.Bs) (err:Bool) (W:World):Prop where
 run:∃n,(rest s (x.at_+k)).length<n∧lx.quoN Q raw uni idn np n k (rest s (x.at_+k)) l err=o
 held:Held w B b f s x W
 row:Row w.heap.size v l.length l W
 len:l.length≤k
 le:x.at_+k≤s.size
theorem lex_under {W W':World} {B b f base:Nat} {s:ByteArray} {x:St} (h:LexS W B b f s x) (hB:B≤base) (hb:b<base) (hf:f<base) (hu:Below base W W'):LexS W' B b f s x:=by
 refine ⟨?_,h.hb,h.hf,h.ne,(hu.block b hb).trans h.lex, ?_,h.sz,h.le⟩
 ·obtain ⟨W0,hs,h1,h2⟩:=h.tabs
  subst hs
  exact ⟨W0,rfl,h1,h2.trans (hu.mono hB)⟩
 ·obtain ⟨p,hp⟩:=h.file
  exact ⟨p,(hu.block f hf).trans hp⟩
theorem held_under {w W W':World} {B b f:Nat} {s:ByteArray} {x:St} (h:Held w B b f s x W) (hB:B≤w.heap.size) (hb:b<w.heap.size) (hf:f<w.heap.size) (hu:Below w.heap.size W W'):Held w B b f s x W' :=
 ⟨lex_under h.lex hB hb hf hu,⟨hu.os.trans h.grown.os,hu.tape.trans h.grown.tape,hu.output.trans h.grown.output,Nat.le_trans h.grown.size hu.size,fun i hi hn=>(hu.block i hi).trans (h.grown.block i hi hn)⟩⟩
theorem quo_next {Q:lx.Bs} {raw uni idn np:Bool} {n k j:Nat} {u l l':lx.Bs} {err err':Bool} {o:lx.QOut} (h:lx.quoN Q raw uni idn np n k u l err=o) (hn:u.length<n) (hs:lx.qStep Q raw uni idn np k u l err=.more j l' err') (hj:0<j) (hju:j≤u.length) :
  ∃m,(u.drop j).length<m∧lx.quoN Q raw uni idn np m (k+j) (u.drop j) l' err'=o:=by
 cases n with
 | zero=>omega
 | succ m =>
  have e:lx.quoN Q raw uni idn np (m+1) k u l err=match lx.qStep Q raw uni idn np k u l err with
   | .stop o=>o
   | .more k' c' e'=>lx.quoN Q raw uni idn np m (k+k') (u.drop k') c' e':=rfl
  rw [hs] at e
  exact ⟨m,by rw [List.length_drop];omega,by rw [←h,e]⟩
theorem quo_stop {Q:lx.Bs} {raw uni idn np:Bool} {n k:Nat} {u l:lx.Bs} {err:Bool} {o o':lx.QOut} (h:lx.quoN Q raw uni idn np n k u l err=o) (hn:u.length<n) (hs:lx.qStep Q raw uni idn np k u l err=.stop o'):o=o':=by
 cases n with
 | zero=>omega
 | succ m =>
  have e:lx.quoN Q raw uni idn np (m+1) k u l err=match lx.qStep Q raw uni idn np k u l err with
   | .stop o=>o
   | .more k' c' e'=>lx.quoN Q raw uni idn np m (k+k') (u.drop k') c' e':=rfl
  rw [hs] at e
  rw [←h,e]
/-- The relation over the whole frame. -/
def QWI (w:World) (B b f:Nat) (s:ByteArray) (x:St) (Q:lx.Bs) (q:ByteArray) (nm:ByteArray) (raw uni idn np:Bool) (o:lx.QOut) (a:Act) (W:World):Prop :=
 ∃(k:Nat) (v:Value) (l:lx.Bs) (err:Bool),QAt a b q raw uni nm np (k:Int) v err∧QI w B b f s x Q raw uni idn np o k v l err W
def QMu (s:ByteArray) (a:Act) (_:World):Nat:=s.size+1-(intOf ((a.tmps[14]?).getD .nilIface)).toNat
/-- The ways out of the loop. -/
def QEnd (w:World) (B b f:Nat) (s:ByteArray) (x:St) (q:ByteArray) (nm:ByteArray) (raw uni np:Bool) (o:lx.QOut):Exit→Act→World→Prop
 | .ret,a,W=>a.defers=[]∧∃t e,a.tmps[12]?=some t∧a.tmps[13]?=some e∧QPost B b f s x o w (.returned (.tuple #[t,e])) W
 | .panic c,a,W=>a.defers=[]∧QPost B b f s x o w (.panicked c) W
 | .exit 0,a,W=>∃(k:Nat) (v:Value) (err:Bool),QAt a b q raw uni nm np (k:Int) v err∧Held w B b f s x W∧x.at_+k=s.size∧o=(if np=true then .bad k else .fault)
 | _,_,_=>False
/-- What a round is to show. -/
abbrev QRound (w:World) (B b f:Nat) (s:ByteArray) (x:St) (Q:lx.Bs) (q:ByteArray) (nm:ByteArray) (raw uni idn np:Bool) (o:lx.QOut) (a:Act) (W:World):Prop :=
 Code.wp Tryz.prog qBody (Exit.then (fun a' W'=>QWI w B b f s x Q q nm raw uni idn np o a' W'∧QMu s a' W'<QMu s a W) (QEnd w B b f s x q nm raw uni np o)) a W
end Go.Proofs.YtaamolahbkgofaaGreatDoor.lex
set_option linter.unusedVariables false
namespace Go.Proofs.YtaamolahbkgofaaGreatDoor.lex
open Go.RowKit mem lines
/-- What every round is given. -/
structure QC (w:World) (B b f:Nat) (s:ByteArray) (x:St) (Q:lx.Bs) (q:ByteArray) (raw uni idn np:Bool) (o:lx.QOut) (k:Nat) (v:Value) (l:lx.Bs) (err:Bool) (wr:World):Prop where
 i:QI w B b f s x Q raw uni idn np o k v l err wr
 hB:B≤w.heap.size
 hb:b<w.heap.size
 hf:f<w.heap.size
 q:q.toList=Q
theorem slice_z {w:World} {b f p:Nat} {s:ByteArray} (za ze:Int) (v:ByteArray) (h:At w b f s p) (hs:s.size≤1000000) (hp:p≤1000000) (h0:0≤za) (ha:p+za.toNat≤s.size) (hae:za≤ze) (he:ze≤1000000)
  (hv:Hid (s.extract (p+za.toNat) (min (p+ze.toNat) s.size)=v)) :
  Calls Tryz.prog 91 #[.pointer (some ⟨b,0,none⟩),.int .i64 za,.int .i64 ze] w fun e' w'=>e'=.returned (.string v)∧∃n,w'=w.drewN n :=
 slice_named za.toNat ze.toNat za ze v h hs hp ha (by omega) (by omega) (by omega) (by omega) hv
theorem toList_length (s:ByteArray):s.toList.length=s.size:=by rw [ByteArray.toList_eq];exact size_list s
/-- What lies in the slice that is looked at. -/
theorem look_list {s q vs:ByteArray} {p k:Nat} (hin:p+k<s.size) (h:Hid (s.extract (p+(k:Int).toNat) (min (p+((k:Int)+(q.size:Int)).toNat) s.size)=vs)):vs.toList=(rest s (p+k)).take q.size:=by
 rw [←h.out]
 have e1:p+(k:Int).toNat=p+k:=rfl
 have e2:p+((k:Int)+(q.size:Int)).toNat=p+k+q.size:=by omega
 rw [e1,e2]
 have e:=slice_list s (p+k) q.size (by omega)
 rw [Nat.add_zero] at e
 exact e
theorem rest_at (s:ByteArray) (p k j:Nat):(rest s (p+k)).drop j=rest s (p+(k+j)):=by rw [rest_drop];congr 1;omega
theorem qmu_lt {s:ByteArray} {a a':Act} {W W':World} {k j:Nat} {i i':Int} (h:a.tmps[14]?=some (.int .i64 i)) (h':a'.tmps[14]?=some (.int .i64 i')) (hk:i=k∧i'=j) (hj:k<j∧k≤s.size):QMu s a' W'<QMu s a W:=by
 unfold QMu
 rw [h,h']
 obtain ⟨rfl,rfl⟩:=hk
 simp [intOf]
 omega
/-- The round's end behind some bytes that were added. -/
theorem qi_add {w wr w2:World} {B b f:Nat} {s:ByteArray} {x:St} {Q:lx.Bs} {q:ByteArray} {raw uni idn np:Bool} {o:lx.QOut} {k j:Nat} {v v':Value} {l:lx.Bs} {err err':Bool} {add:lx.Bs}
  (HC:QC w B b f s x Q q raw uni idn np o k v l err wr) (hs:lx.qStep Q raw uni idn np k (rest s (x.at_+k)) l err=.more j (l++add) err') (hj:0<j) (hju:x.at_+k+j≤s.size) (ha:add.length≤j)
  (hr:Row w.heap.size v' (l.length+add.length) (l++add) w2) (hb:Below w.heap.size wr w2):QI w B b f s x Q raw uni idn np o (k+j) v' (l++add) err' w2:=by
 obtain ⟨n,h1,h2⟩:=HC.i.run
 have h3:=quo_next h2 h1 hs hj (by rw [rest_length];omega)
 rw [rest_at] at h3
 refine ⟨h3,held_under HC.i.held HC.hB HC.hb HC.hf hb,by rw [List.length_append];exact hr,by have:=HC.i.len;rw [List.length_append];omega,by omega⟩
/-- .. behind none. -/
theorem qi_skip {w wr w2:World} {B b f:Nat} {s:ByteArray} {x:St} {Q:lx.Bs} {q:ByteArray} {raw uni idn np:Bool} {o:lx.QOut} {k j:Nat} {v:Value} {l:lx.Bs} {err err':Bool}
  (HC:QC w B b f s x Q q raw uni idn np o k v l err wr) (hs:lx.qStep Q raw uni idn np k (rest s (x.at_+k)) l err=.more j l err') (hj:0<j) (hju:x.at_+k+j≤s.size)
  (hb:Below wr.heap.size wr w2):QI w B b f s x Q raw uni idn np o (k+j) v l err' w2:=by
 obtain ⟨n,h1,h2⟩:=HC.i.run
 have h3:=quo_next h2 h1 hs hj (by rw [rest_length];omega)
 rw [rest_at] at h3
 exact ⟨h3,⟨HC.i.held.lex.below hb,grown_trans HC.i.held.grown (grown_below hb _)⟩,HC.i.row.below hb,by have:=HC.i.len;omega,by omega⟩
theorem row_app {w wr:World} {v:Value} {l:lx.Bs} (h:Row w.heap.size v l.length l wr) (n:Nat) (ob:Obj):Row w.heap.size v l.length l ((wr.drewN n).alloc ob):=(h.drewN n).below (below_alloc _ _)
theorem below_app {base:Nat} {wr w2:World} (n:Nat) (ob:Obj) (hb:base≤wr.heap.size) (h:Below base ((wr.drewN n).alloc ob) w2):Below base wr w2 :=
 ((below_drewN (Below.refl base wr) n).trans ((below_alloc (wr.drewN n) ob).mono hb)).trans h
section
variable {w wr:World} {B b f:Nat} {s q nm:ByteArray} {x:St} {Q:lx.Bs} {raw uni idn np:Bool} {o:lx.QOut} {k:Nat} {v:Value} {l:lx.Bs} {err:Bool} {u:Nat→Value}
set_option maxHeartbeats 2000000 in
set_option maxRecDepth 1000000 in
theorem quo_plain (HC:Hid (QC w B b f s x Q q raw uni idn np o k v l err wr)) (SZ:s.size≤20000) (hq1:1≤q.size) (hq3:q.size≤3) (hin:x.at_+k<s.size)
  (hm:Hid (¬(rest s (x.at_+k)).take q.size=Q)) (hc:¬((s[x.at_+k].toNat:Int)=92)) (hn:¬((s[x.at_+k].toNat:Int)=10)) :
  QRound w B b f s x Q q nm raw uni idn np o (QFr u b q raw uni nm np (k:Int) v err) wr:=by
 have HL:=Lib.hid HC.out.i.held.lex
 have J0:Hid (inB s (x.at_+(k:Int).toNat)=true):=by show _=_;simp [inB,hin]
 have J1:Hid (bt s (x.at_+(k:Int).toNat)=(s[x.at_+k].toNat:Int)):=by show bt s (x.at_+k)=_;exact bt_in hin
 obtain ⟨vs,hvs⟩:∃vs,Hid (s.extract (x.at_+(k:Int).toNat) (min (x.at_+((k:Int)+(q.size:Int)).toNat) s.size)=vs):=⟨_,rfl⟩
 have pin:x.at_+(k:Int).toNat<s.size:=by simpa using hin
 have hrc:=rest_cons s (x.at_+k) hin
 have hll:=look_list hin hvs
 have hcv:(vs.toList==q.toList)=false:=by
  rw [hll,HC.out.q]
  exact beq_eq_false_iff_ne.2 hm.out
 have hqs:q.size=Q.length:=by rw [←HC.out.q,toList_length]
 have hm':=hm.out
 rw [hqs,hrc] at hm'
 have HM:=Lib.hid hm'
 have HM0:Hid (¬(rest s (x.at_+k)).take Q.length=Q):=by rw [←hqs];exact hm.out
 have HQS:=Lib.hid hqs
 have HRC:=Lib.hid hrc
 have HR:=Lib.hid HC.out.i.row
 have hsz:=HC.out.i.held.grown.size
 have hlk:=HC.out.i.len
 clear hll hrc hm hm' hqs
 have HS:Hid (lx.qStep Q raw uni idn np k (rest s (x.at_+k)) l err=.more 1 (l++[s[x.at_+k]]) err):=by
  have hqs:=HQS.out
  show _=_
  rw [HRC.out]
  unfold lx.qStep
  simp only
  rw [if_neg HM.out,if_neg (by omega),if_neg (by omega)]
 clear HM HM0 HRC
 generalize s[x.at_+k]=c at *
 have hcz:True:=trivial
 unfold QRound QFr
 conv=>arg 2;whnf
 go_wp2_with (first
  | (go_at_call 78;refine (peekOk_z _ _ (by first|exact HL.out.at|exact (HL.out.drewN _).at) (by omega) (by omega) (by omega) (by omega) J0).mono ?_;rintro e w' ⟨rfl,n,rfl⟩)
  | (go_at_call 91;refine (slice_z _ _ vs (by first|exact HL.out.at|exact (HL.out.drewN _).at) (by omega) (by omega) (by omega) (by omega) (by omega) (by omega) hvs).mono ?_;rintro e w' ⟨rfl,n2,rfl⟩)
  | (go_at_call 80;refine (peek_z _ _ (by first|exact HL.out.at|exact (HL.out.drewN _).at) (by omega) pin (by omega) J1).mono ?_;rintro e w' ⟨rfl,n3,rfl⟩)
  | (at_builtin;refine wpList_append_row _ rfl _ _ rfl w.heap.size l.length l v rfl (row_app HR.out _ _) (by simp;omega) _ 1 1 [c] rfl rfl (by decide) (new_cell _ _ _ (by first|exact hcz|rfl)) (by omega) ?_;intro v' w2 r1 n1 b1;have R1:=Lib.hid (And.intro r1 (And.intro n1 b1));clear r1 n1 b1))
 refine ⟨⟨k+1,v',l++[c],err,⟨rfl,rfl,rfl,rfl,rfl,rfl,rfl,rfl,rfl,rfl,rfl,rfl,rfl⟩,qi_add HC.out HS.out (by omega) (by omega) (by simp) R1.out.1 (below_app _ _ hsz R1.out.2.2)⟩, ?_⟩
 exact qmu_lt (k:=k) (j:=k+1) rfl rfl (by omega) (by omega)
set_option maxHeartbeats 2000000 in
set_option maxRecDepth 1000000 in
theorem quo_line (HC:Hid (QC w B b f s x Q q raw uni idn np o k v l err wr)) (SZ:s.size≤20000) (hq1:1≤q.size) (hq3:q.size≤3) (hin:x.at_+k<s.size)
  (hm:Hid (¬(rest s (x.at_+k)).take q.size=Q)) (hc:¬((s[x.at_+k].toNat:Int)=92)) (hn:(s[x.at_+k].toNat:Int)=10) (h3:Hid (q.size=3)) :
  QRound w B b f s x Q q nm raw uni idn np o (QFr u b q raw uni nm np (k:Int) v err) wr:=by
 have HL:=Lib.hid HC.out.i.held.lex
 have J0:Hid (inB s (x.at_+(k:Int).toNat)=true):=by show _=_;simp [inB,hin]
 have J1:Hid (bt s (x.at_+(k:Int).toNat)=(s[x.at_+k].toNat:Int)):=by show bt s (x.at_+k)=_;exact bt_in hin
 obtain ⟨vs,hvs⟩:∃vs,Hid (s.extract (x.at_+(k:Int).toNat) (min (x.at_+((k:Int)+(q.size:Int)).toNat) s.size)=vs):=⟨_,rfl⟩
 have pin:x.at_+(k:Int).toNat<s.size:=by simpa using hin
 have hrc:=rest_cons s (x.at_+k) hin
 have hll:=look_list hin hvs
 have hcv:(vs.toList==q.toList)=false:=by
  rw [hll,HC.out.q]
  exact beq_eq_false_iff_ne.2 hm.out
 have hqs:q.size=Q.length:=by rw [←HC.out.q,toList_length]
 have hm':=hm.out
 rw [hqs,hrc] at hm'
 have HM:=Lib.hid hm'
 have HM0:Hid (¬(rest s (x.at_+k)).take Q.length=Q):=by rw [←hqs];exact hm.out
 have HQS:=Lib.hid hqs
 have HRC:=Lib.hid hrc
 have HR:=Lib.hid HC.out.i.row
 have hsz:=HC.out.i.held.grown.size
 have hlk:=HC.out.i.len
 clear hll hrc hm hm' hqs
 have HS:Hid (lx.qStep Q raw uni idn np k (rest s (x.at_+k)) l err=.more 1 (l++[s[x.at_+k]]) err):=by
  have hqs:=HQS.out
  show _=_
  rw [HRC.out]
  unfold lx.qStep
  simp only
  rw [if_neg HM.out,if_neg (by omega),if_neg (by have h3:=h3.out;omega)]
 clear HM HM0 HRC
 generalize s[x.at_+k]=c at *
 have hcz:=hn
 rw [hn] at J1
 have hz3:(q.size:Int)=3:=by have:=h3.out;omega
 rw [hz3] at hvs
 unfold QRound QFr
 conv=>arg 2;whnf
 go_wp2_with (first
  | (go_at_call 78;refine (peekOk_z _ _ (by first|exact HL.out.at|exact (HL.out.drewN _).at) (by omega) (by omega) (by omega) (by omega) J0).mono ?_;rintro e w' ⟨rfl,n,rfl⟩)
  | (go_at_call 91;refine (slice_z _ _ vs (by first|exact HL.out.at|exact (HL.out.drewN _).at) (by omega) (by omega) (by omega) (by omega) (by omega) (by omega) hvs).mono ?_;rintro e w' ⟨rfl,n2,rfl⟩)
  | (go_at_call 80;refine (peek_z _ _ (by first|exact HL.out.at|exact (HL.out.drewN _).at) (by omega) pin (by omega) J1).mono ?_;rintro e w' ⟨rfl,n3,rfl⟩)
  | (at_builtin;refine wpList_append_row _ rfl _ _ rfl w.heap.size l.length l v rfl (row_app HR.out _ _) (by simp;omega) _ 1 1 [c] rfl rfl (by decide) (new_cell _ _ _ (by first|exact hcz|rfl)) (by omega) ?_;intro v' w2 r1 n1 b1;have R1:=Lib.hid (And.intro r1 (And.intro n1 b1));clear r1 n1 b1))
 refine ⟨⟨k+1,v',l++[c],err,⟨rfl,rfl,rfl,rfl,rfl,rfl,rfl,rfl,rfl,rfl,rfl,rfl,rfl⟩,qi_add HC.out HS.out (by omega) (by omega) (by simp) R1.out.1 (below_app _ _ hsz R1.out.2.2)⟩, ?_⟩
 exact qmu_lt (k:=k) (j:=k+1) rfl rfl (by omega) (by omega)
end
end Go.Proofs.YtaamolahbkgofaaGreatDoor.lex
set_option linter.unusedVariables false
namespace Go.Proofs.YtaamolahbkgofaaGreatDoor.lex
open Go.RowKit mem lines
theorem new_cell2 (W:World) (z y:Int) (c d:UInt8) (h:(c.toNat:Int)=z) (h':(d.toNat:Int)=y):∀j u,([c,d].map u8V)[j]?=some u→(W.alloc (.cells #[.int .u8 z,.int .u8 y] 5)).cell? ((⟨W.heap.size,0,none⟩:Addr).add j)=some u:=by
 intro j u hj
 have hnew:(W.alloc (.cells #[.int .u8 z,.int .u8 y] 5)).heap[W.heap.size]?=some (.cells #[.int .u8 z,.int .u8 y] 5 (0,0)):=by
  show (W.heap.push _)[W.heap.size]?=_
  simp
 match j,hj with
 | 0,hj =>
  have hu:u8V c=u:=by simpa using hj
  rw [←hu,u8V,h]
  exact cells_of_heap hnew 0
 | 1,hj =>
  have hu:u8V d=u:=by simpa using hj
  rw [←hu,u8V,h']
  exact cells_of_heap hnew 1
 | j+2,hj=>simp at hj
section
variable {w wr:World} {B b f:Nat} {s q nm:ByteArray} {x:St} {Q:lx.Bs} {raw uni idn np:Bool} {o:lx.QOut} {k:Nat} {v:Value} {l:lx.Bs} {err:Bool} {u:Nat→Value}
set_option maxHeartbeats 2000000 in
set_option maxRecDepth 1000000 in
theorem quo_raw (HC:Hid (QC w B b f s x Q q true uni idn np o k v l err wr)) (SZ:s.size≤20000) (hq3:q.size≤3) (hin2:x.at_+(k+1)<s.size)
  (hm:Hid (¬(rest s (x.at_+k)).take q.size=Q)) (hc:(s[x.at_+k].toNat:Int)=92) :
  QRound w B b f s x Q q nm true uni idn np o (QFr u b q true uni nm np (k:Int) v err) wr:=by
 have hin:x.at_+k<s.size:=by omega
 have HL:=Lib.hid HC.out.i.held.lex
 have J0:Hid (inB s (x.at_+(k:Int).toNat)=true):=by show _=_;simp [inB,hin]
 have J1:Hid (bt s (x.at_+(k:Int).toNat)=(s[x.at_+k].toNat:Int)):=by show bt s (x.at_+k)=_;exact bt_in hin
 obtain ⟨vs,hvs⟩:∃vs,Hid (s.extract (x.at_+(k:Int).toNat) (min (x.at_+((k:Int)+(q.size:Int)).toNat) s.size)=vs):=⟨_,rfl⟩
 have pin:x.at_+(k:Int).toNat<s.size:=by simpa using hin
 have hrc:=rest_cons s (x.at_+k) hin
 have hll:=look_list hin hvs
 have hcv:(vs.toList==q.toList)=false:=by
  rw [hll,HC.out.q]
  exact beq_eq_false_iff_ne.2 hm.out
 have hqs:q.size=Q.length:=by rw [←HC.out.q,toList_length]
 have hm':=hm.out
 rw [hqs,hrc] at hm'
 have HM:=Lib.hid hm'
 have HM0:Hid (¬(rest s (x.at_+k)).take Q.length=Q):=by rw [←hqs];exact hm.out
 have HQS:=Lib.hid hqs
 have HRC:=Lib.hid hrc
 have HR:=Lib.hid HC.out.i.row
 have hsz:=HC.out.i.held.grown.size
 have hlk:=HC.out.i.len
 clear hll hrc hm hm' hqs
 have J2:Hid (inB s (x.at_+((k:Int)+1).toNat)=true):=by
  show _=_
  have e:((k:Int)+1).toNat=k+1:=by omega
  rw [e];simp [inB];omega
 have J3:Hid (bt s (x.at_+((k:Int)+1).toNat)=(s[x.at_+(k+1)].toNat:Int)):=by
  have e:((k:Int)+1).toNat=k+1:=by omega
  show _=_
  rw [e];exact bt_in hin2
 have pin2:x.at_+((k:Int)+1).toNat<s.size:=by omega
 have hrc2:=rest_cons s (x.at_+(k+1)) hin2
 have hHRC:=HRC.out
 rw [show x.at_+k+1=x.at_+(k+1) from by omega,hrc2] at hHRC
 have HRC2:=Lib.hid hHRC
 clear hHRC hrc2 HRC
 have HS:Hid (lx.qStep Q true uni idn np k (rest s (x.at_+k)) l err=.more 2 (l++[92,s[x.at_+(k+1)]]) err):=by
  show _=_
  rw [HRC2.out]
  unfold lx.qStep
  simp only
  rw [if_neg (by rw [←HRC2.out];exact HM0.out),if_pos (by omega),if_pos trivial]
 clear HM HM0 HRC2
 rw [hc] at J1
 generalize s[x.at_+(k+1)]=d at *
 unfold QRound QFr
 conv=>arg 2;whnf
 go_wp2_with (first
  | (go_at_call 78;refine (peekOk_z _ _ (by first|exact HL.out.at|exact (HL.out.drewN _).at) (by omega) (by omega) (by omega) (by omega) (by first|exact J0|exact J2)).mono ?_;rintro e w' ⟨rfl,n,rfl⟩)
  | (go_at_call 91;refine (slice_z _ _ vs (by first|exact HL.out.at|exact (HL.out.drewN _).at) (by omega) (by omega) (by omega) (by omega) (by omega) (by omega) hvs).mono ?_;rintro e w' ⟨rfl,n2,rfl⟩)
  | (go_at_call 80;refine (peek_z _ _ (by first|exact HL.out.at|exact (HL.out.drewN _).at) (by omega) (by first|exact pin|exact pin2) (by omega) (by first|exact J1|exact J3)).mono ?_;rintro e w' ⟨rfl,n3,rfl⟩)
  | (at_builtin;refine wpList_append_row _ rfl _ _ rfl w.heap.size l.length l v rfl (row_app HR.out _ _) (by simp;omega) _ 2 2 [92,d] rfl rfl (by decide) (new_cell2 _ _ _ 92 d rfl rfl) (by omega) ?_;intro v' w2 r1 n1 b1;have R1:=Lib.hid (And.intro r1 (And.intro n1 b1));clear r1 n1 b1))
 refine ⟨⟨k+2,v',l++[92,d],err,⟨rfl,rfl,rfl,rfl,rfl,rfl,rfl,rfl,rfl,rfl,rfl,rfl,rfl⟩,qi_add HC.out HS.out (by omega) (by omega) (by simp) R1.out.1 (below_app _ _ hsz R1.out.2.2)⟩, ?_⟩
 exact qmu_lt (k:=k) (j:=k+2) rfl rfl (by omega) (by omega)
set_option maxHeartbeats 2000000 in
set_option maxRecDepth 1000000 in
theorem quo_s97 (HC:Hid (QC w B b f s x Q q false uni idn np o k v l err wr)) (SZ:s.size≤20000) (hq3:q.size≤3) (hin2:x.at_+(k+1)<s.size)
  (hm:Hid (¬(rest s (x.at_+k)).take q.size=Q)) (hc:(s[x.at_+k].toNat:Int)=92) (hd:s[x.at_+(k+1)]=97) :
  QRound w B b f s x Q q nm false uni idn np o (QFr u b q false uni nm np (k:Int) v err) wr:=by
 have hin:x.at_+k<s.size:=by omega
 have HL:=Lib.hid HC.out.i.held.lex
 have J0:Hid (inB s (x.at_+(k:Int).toNat)=true):=by show _=_;simp [inB,hin]
 have J1:Hid (bt s (x.at_+(k:Int).toNat)=(s[x.at_+k].toNat:Int)):=by show bt s (x.at_+k)=_;exact bt_in hin
 obtain ⟨vs,hvs⟩:∃vs,Hid (s.extract (x.at_+(k:Int).toNat) (min (x.at_+((k:Int)+(q.size:Int)).toNat) s.size)=vs):=⟨_,rfl⟩
 have pin:x.at_+(k:Int).toNat<s.size:=by simpa using hin
 have hrc:=rest_cons s (x.at_+k) hin
 have hll:=look_list hin hvs
 have hcv:(vs.toList==q.toList)=false:=by
  rw [hll,HC.out.q]
  exact beq_eq_false_iff_ne.2 hm.out
 have hqs:q.size=Q.length:=by rw [←HC.out.q,toList_length]
 have hm':=hm.out
 rw [hqs,hrc] at hm'
 have HM:=Lib.hid hm'
 have HM0:Hid (¬(rest s (x.at_+k)).take Q.length=Q):=by rw [←hqs];exact hm.out
 have HQS:=Lib.hid hqs
 have HRC:=Lib.hid hrc
 have HR:=Lib.hid HC.out.i.row
 have hsz:=HC.out.i.held.grown.size
 have hlk:=HC.out.i.len
 clear hll hrc hm hm' hqs
 have J2:Hid (inB s (x.at_+((k:Int)+1).toNat)=true):=by
  show _=_
  have e:((k:Int)+1).toNat=k+1:=by omega
  rw [e];simp [inB];omega
 have J3:Hid (bt s (x.at_+((k:Int)+1).toNat)=(s[x.at_+(k+1)].toNat:Int)):=by
  have e:((k:Int)+1).toNat=k+1:=by omega
  show _=_
  rw [e];exact bt_in hin2
 have pin2:x.at_+((k:Int)+1).toNat<s.size:=by omega
 have hrc2:=rest_cons s (x.at_+(k+1)) hin2
 have hHRC:=HRC.out
 rw [show x.at_+k+1=x.at_+(k+1) from by omega,hrc2] at hHRC
 have HRC2:=Lib.hid hHRC
 clear hHRC hrc2 HRC
 rw [hd] at J3 HRC2
 have HS:Hid (lx.qStep Q false uni idn np k (rest s (x.at_+k)) l err=.more 2 (l++[7]) err):=by
  show _=_
  rw [HRC2.out]
  unfold lx.qStep
  simp only
  rw [if_neg (by rw [←HRC2.out];exact HM0.out),if_pos (by omega)]
  rfl
 clear HM HM0 HRC2
 rw [hc] at J1
 have hcz:((7:UInt8).toNat:Int)=7:=rfl
 unfold QRound QFr
 conv=>arg 2;whnf
 go_wp2_with (first
  | (go_at_call 78;refine (peekOk_z _ _ (by first|exact HL.out.at|exact (HL.out.drewN _).at) (by omega) (by omega) (by omega) (by omega) (by first|exact J0|exact J2)).mono ?_;rintro e w' ⟨rfl,n,rfl⟩)
  | (go_at_call 91;refine (slice_z _ _ vs (by first|exact HL.out.at|exact (HL.out.drewN _).at) (by omega) (by omega) (by omega) (by omega) (by omega) (by omega) hvs).mono ?_;rintro e w' ⟨rfl,n2,rfl⟩)
  | (go_at_call 80;refine (peek_z _ _ (by first|exact HL.out.at|exact (HL.out.drewN _).at) (by omega) (by first|exact pin|exact pin2) (by omega) (by first|exact J1|exact J3)).mono ?_;rintro e w' ⟨rfl,n3,rfl⟩)
  | (at_builtin;refine wpList_append_row _ rfl _ _ rfl w.heap.size l.length l v rfl (row_app HR.out _ _) (by simp;omega) _ 1 1 [7] rfl rfl (by decide) (new_cell _ _ _ (by first|exact hcz|rfl)) (by omega) ?_;intro v' w2 r1 n1 b1;have R1:=Lib.hid (And.intro r1 (And.intro n1 b1));clear r1 n1 b1))
 refine ⟨⟨k+2,v',l++[7],err,⟨rfl,rfl,rfl,rfl,rfl,rfl,rfl,rfl,rfl,rfl,rfl,rfl,rfl⟩,qi_add HC.out HS.out (by omega) (by omega) (by simp) R1.out.1 (below_app _ _ hsz R1.out.2.2)⟩, ?_⟩
 exact qmu_lt (k:=k) (j:=k+2) rfl rfl (by omega) (by omega)
set_option maxHeartbeats 2000000 in
set_option maxRecDepth 1000000 in
theorem quo_s98 (HC:Hid (QC w B b f s x Q q false uni idn np o k v l err wr)) (SZ:s.size≤20000) (hq3:q.size≤3) (hin2:x.at_+(k+1)<s.size)
  (hm:Hid (¬(rest s (x.at_+k)).take q.size=Q)) (hc:(s[x.at_+k].toNat:Int)=92) (hd:s[x.at_+(k+1)]=98) :
  QRound w B b f s x Q q nm false uni idn np o (QFr u b q false uni nm np (k:Int) v err) wr:=by
 have hin:x.at_+k<s.size:=by omega
 have HL:=Lib.hid HC.out.i.held.lex
 have J0:Hid (inB s (x.at_+(k:Int).toNat)=true):=by show _=_;simp [inB,hin]
 have J1:Hid (bt s (x.at_+(k:Int).toNat)=(s[x.at_+k].toNat:Int)):=by show bt s (x.at_+k)=_;exact bt_in hin
 obtain ⟨vs,hvs⟩:∃vs,Hid (s.extract (x.at_+(k:Int).toNat) (min (x.at_+((k:Int)+(q.size:Int)).toNat) s.size)=vs):=⟨_,rfl⟩
 have pin:x.at_+(k:Int).toNat<s.size:=by simpa using hin
 have hrc:=rest_cons s (x.at_+k) hin
 have hll:=look_list hin hvs
 have hcv:(vs.toList==q.toList)=false:=by
  rw [hll,HC.out.q]
  exact beq_eq_false_iff_ne.2 hm.out
 have hqs:q.size=Q.length:=by rw [←HC.out.q,toList_length]
 have hm':=hm.out
 rw [hqs,hrc] at hm'
 have HM:=Lib.hid hm'
 have HM0:Hid (¬(rest s (x.at_+k)).take Q.length=Q):=by rw [←hqs];exact hm.out
 have HQS:=Lib.hid hqs
 have HRC:=Lib.hid hrc
 have HR:=Lib.hid HC.out.i.row
 have hsz:=HC.out.i.held.grown.size
 have hlk:=HC.out.i.len
 clear hll hrc hm hm' hqs
 have J2:Hid (inB s (x.at_+((k:Int)+1).toNat)=true):=by
  show _=_
  have e:((k:Int)+1).toNat=k+1:=by omega
  rw [e];simp [inB];omega
 have J3:Hid (bt s (x.at_+((k:Int)+1).toNat)=(s[x.at_+(k+1)].toNat:Int)):=by
  have e:((k:Int)+1).toNat=k+1:=by omega
  show _=_
  rw [e];exact bt_in hin2
 have pin2:x.at_+((k:Int)+1).toNat<s.size:=by omega
 have hrc2:=rest_cons s (x.at_+(k+1)) hin2
 have hHRC:=HRC.out
 rw [show x.at_+k+1=x.at_+(k+1) from by omega,hrc2] at hHRC
 have HRC2:=Lib.hid hHRC
 clear hHRC hrc2 HRC
 rw [hd] at J3 HRC2
 have HS:Hid (lx.qStep Q false uni idn np k (rest s (x.at_+k)) l err=.more 2 (l++[8]) err):=by
  show _=_
  rw [HRC2.out]
  unfold lx.qStep
  simp only
  rw [if_neg (by rw [←HRC2.out];exact HM0.out),if_pos (by omega)]
  rfl
 clear HM HM0 HRC2
 rw [hc] at J1
 have hcz:((8:UInt8).toNat:Int)=8:=rfl
 unfold QRound QFr
 conv=>arg 2;whnf
 go_wp2_with (first
  | (go_at_call 78;refine (peekOk_z _ _ (by first|exact HL.out.at|exact (HL.out.drewN _).at) (by omega) (by omega) (by omega) (by omega) (by first|exact J0|exact J2)).mono ?_;rintro e w' ⟨rfl,n,rfl⟩)
  | (go_at_call 91;refine (slice_z _ _ vs (by first|exact HL.out.at|exact (HL.out.drewN _).at) (by omega) (by omega) (by omega) (by omega) (by omega) (by omega) hvs).mono ?_;rintro e w' ⟨rfl,n2,rfl⟩)
  | (go_at_call 80;refine (peek_z _ _ (by first|exact HL.out.at|exact (HL.out.drewN _).at) (by omega) (by first|exact pin|exact pin2) (by omega) (by first|exact J1|exact J3)).mono ?_;rintro e w' ⟨rfl,n3,rfl⟩)
  | (at_builtin;refine wpList_append_row _ rfl _ _ rfl w.heap.size l.length l v rfl (row_app HR.out _ _) (by simp;omega) _ 1 1 [8] rfl rfl (by decide) (new_cell _ _ _ (by first|exact hcz|rfl)) (by omega) ?_;intro v' w2 r1 n1 b1;have R1:=Lib.hid (And.intro r1 (And.intro n1 b1));clear r1 n1 b1))
 refine ⟨⟨k+2,v',l++[8],err,⟨rfl,rfl,rfl,rfl,rfl,rfl,rfl,rfl,rfl,rfl,rfl,rfl,rfl⟩,qi_add HC.out HS.out (by omega) (by omega) (by simp) R1.out.1 (below_app _ _ hsz R1.out.2.2)⟩, ?_⟩
 exact qmu_lt (k:=k) (j:=k+2) rfl rfl (by omega) (by omega)
set_option maxHeartbeats 2000000 in
set_option maxRecDepth 1000000 in
theorem quo_s102 (HC:Hid (QC w B b f s x Q q false uni idn np o k v l err wr)) (SZ:s.size≤20000) (hq3:q.size≤3) (hin2:x.at_+(k+1)<s.size)
  (hm:Hid (¬(rest s (x.at_+k)).take q.size=Q)) (hc:(s[x.at_+k].toNat:Int)=92) (hd:s[x.at_+(k+1)]=102) :
  QRound w B b f s x Q q nm false uni idn np o (QFr u b q false uni nm np (k:Int) v err) wr:=by
 have hin:x.at_+k<s.size:=by omega
 have HL:=Lib.hid HC.out.i.held.lex
 have J0:Hid (inB s (x.at_+(k:Int).toNat)=true):=by show _=_;simp [inB,hin]
 have J1:Hid (bt s (x.at_+(k:Int).toNat)=(s[x.at_+k].toNat:Int)):=by show bt s (x.at_+k)=_;exact bt_in hin
 obtain ⟨vs,hvs⟩:∃vs,Hid (s.extract (x.at_+(k:Int).toNat) (min (x.at_+((k:Int)+(q.size:Int)).toNat) s.size)=vs):=⟨_,rfl⟩
 have pin:x.at_+(k:Int).toNat<s.size:=by simpa using hin
 have hrc:=rest_cons s (x.at_+k) hin
 have hll:=look_list hin hvs
 have hcv:(vs.toList==q.toList)=false:=by
  rw [hll,HC.out.q]
  exact beq_eq_false_iff_ne.2 hm.out
 have hqs:q.size=Q.length:=by rw [←HC.out.q,toList_length]
 have hm':=hm.out
 rw [hqs,hrc] at hm'
 have HM:=Lib.hid hm'
 have HM0:Hid (¬(rest s (x.at_+k)).take Q.length=Q):=by rw [←hqs];exact hm.out
 have HQS:=Lib.hid hqs
 have HRC:=Lib.hid hrc
 have HR:=Lib.hid HC.out.i.row
 have hsz:=HC.out.i.held.grown.size
 have hlk:=HC.out.i.len
 clear hll hrc hm hm' hqs
 have J2:Hid (inB s (x.at_+((k:Int)+1).toNat)=true):=by
  show _=_
  have e:((k:Int)+1).toNat=k+1:=by omega
  rw [e];simp [inB];omega
 have J3:Hid (bt s (x.at_+((k:Int)+1).toNat)=(s[x.at_+(k+1)].toNat:Int)):=by
  have e:((k:Int)+1).toNat=k+1:=by omega
  show _=_
  rw [e];exact bt_in hin2
 have pin2:x.at_+((k:Int)+1).toNat<s.size:=by omega
 have hrc2:=rest_cons s (x.at_+(k+1)) hin2
 have hHRC:=HRC.out
 rw [show x.at_+k+1=x.at_+(k+1) from by omega,hrc2] at hHRC
 have HRC2:=Lib.hid hHRC
 clear hHRC hrc2 HRC
 rw [hd] at J3 HRC2
 have HS:Hid (lx.qStep Q false uni idn np k (rest s (x.at_+k)) l err=.more 2 (l++[12]) err):=by
  show _=_
  rw [HRC2.out]
  unfold lx.qStep
  simp only
  rw [if_neg (by rw [←HRC2.out];exact HM0.out),if_pos (by omega)]
  rfl
 clear HM HM0 HRC2
 rw [hc] at J1
 have hcz:((12:UInt8).toNat:Int)=12:=rfl
 unfold QRound QFr
 conv=>arg 2;whnf
 go_wp2_with (first
  | (go_at_call 78;refine (peekOk_z _ _ (by first|exact HL.out.at|exact (HL.out.drewN _).at) (by omega) (by omega) (by omega) (by omega) (by first|exact J0|exact J2)).mono ?_;rintro e w' ⟨rfl,n,rfl⟩)
  | (go_at_call 91;refine (slice_z _ _ vs (by first|exact HL.out.at|exact (HL.out.drewN _).at) (by omega) (by omega) (by omega) (by omega) (by omega) (by omega) hvs).mono ?_;rintro e w' ⟨rfl,n2,rfl⟩)
  | (go_at_call 80;refine (peek_z _ _ (by first|exact HL.out.at|exact (HL.out.drewN _).at) (by omega) (by first|exact pin|exact pin2) (by omega) (by first|exact J1|exact J3)).mono ?_;rintro e w' ⟨rfl,n3,rfl⟩)
  | (at_builtin;refine wpList_append_row _ rfl _ _ rfl w.heap.size l.length l v rfl (row_app HR.out _ _) (by simp;omega) _ 1 1 [12] rfl rfl (by decide) (new_cell _ _ _ (by first|exact hcz|rfl)) (by omega) ?_;intro v' w2 r1 n1 b1;have R1:=Lib.hid (And.intro r1 (And.intro n1 b1));clear r1 n1 b1))
 refine ⟨⟨k+2,v',l++[12],err,⟨rfl,rfl,rfl,rfl,rfl,rfl,rfl,rfl,rfl,rfl,rfl,rfl,rfl⟩,qi_add HC.out HS.out (by omega) (by omega) (by simp) R1.out.1 (below_app _ _ hsz R1.out.2.2)⟩, ?_⟩
 exact qmu_lt (k:=k) (j:=k+2) rfl rfl (by omega) (by omega)
set_option maxHeartbeats 2000000 in
set_option maxRecDepth 1000000 in
theorem quo_s110 (HC:Hid (QC w B b f s x Q q false uni idn np o k v l err wr)) (SZ:s.size≤20000) (hq3:q.size≤3) (hin2:x.at_+(k+1)<s.size)
  (hm:Hid (¬(rest s (x.at_+k)).take q.size=Q)) (hc:(s[x.at_+k].toNat:Int)=92) (hd:s[x.at_+(k+1)]=110) :
  QRound w B b f s x Q q nm false uni idn np o (QFr u b q false uni nm np (k:Int) v err) wr:=by
 have hin:x.at_+k<s.size:=by omega
 have HL:=Lib.hid HC.out.i.held.lex
 have J0:Hid (inB s (x.at_+(k:Int).toNat)=true):=by show _=_;simp [inB,hin]
 have J1:Hid (bt s (x.at_+(k:Int).toNat)=(s[x.at_+k].toNat:Int)):=by show bt s (x.at_+k)=_;exact bt_in hin
 obtain ⟨vs,hvs⟩:∃vs,Hid (s.extract (x.at_+(k:Int).toNat) (min (x.at_+((k:Int)+(q.size:Int)).toNat) s.size)=vs):=⟨_,rfl⟩
 have pin:x.at_+(k:Int).toNat<s.size:=by simpa using hin
 have hrc:=rest_cons s (x.at_+k) hin
 have hll:=look_list hin hvs
 have hcv:(vs.toList==q.toList)=false:=by
  rw [hll,HC.out.q]
  exact beq_eq_false_iff_ne.2 hm.out
 have hqs:q.size=Q.length:=by rw [←HC.out.q,toList_length]
 have hm':=hm.out
 rw [hqs,hrc] at hm'
 have HM:=Lib.hid hm'
 have HM0:Hid (¬(rest s (x.at_+k)).take Q.length=Q):=by rw [←hqs];exact hm.out
 have HQS:=Lib.hid hqs
 have HRC:=Lib.hid hrc
 have HR:=Lib.hid HC.out.i.row
 have hsz:=HC.out.i.held.grown.size
 have hlk:=HC.out.i.len
 clear hll hrc hm hm' hqs
 have J2:Hid (inB s (x.at_+((k:Int)+1).toNat)=true):=by
  show _=_
  have e:((k:Int)+1).toNat=k+1:=by omega
  rw [e];simp [inB];omega
 have J3:Hid (bt s (x.at_+((k:Int)+1).toNat)=(s[x.at_+(k+1)].toNat:Int)):=by
  have e:((k:Int)+1).toNat=k+1:=by omega
  show _=_
  rw [e];exact bt_in hin2
 have pin2:x.at_+((k:Int)+1).toNat<s.size:=by omega
 have hrc2:=rest_cons s (x.at_+(k+1)) hin2
 have hHRC:=HRC.out
 rw [show x.at_+k+1=x.at_+(k+1) from by omega,hrc2] at hHRC
 have HRC2:=Lib.hid hHRC
 clear hHRC hrc2 HRC
 rw [hd] at J3 HRC2
 have HS:Hid (lx.qStep Q false uni idn np k (rest s (x.at_+k)) l err=.more 2 (l++[10]) err):=by
  show _=_
  rw [HRC2.out]
  unfold lx.qStep
  simp only
  rw [if_neg (by rw [←HRC2.out];exact HM0.out),if_pos (by omega)]
  rfl
 clear HM HM0 HRC2
 rw [hc] at J1
 have hcz:((10:UInt8).toNat:Int)=10:=rfl
 unfold QRound QFr
 conv=>arg 2;whnf
 go_wp2_with (first
  | (go_at_call 78;refine (peekOk_z _ _ (by first|exact HL.out.at|exact (HL.out.drewN _).at) (by omega) (by omega) (by omega) (by omega) (by first|exact J0|exact J2)).mono ?_;rintro e w' ⟨rfl,n,rfl⟩)
  | (go_at_call 91;refine (slice_z _ _ vs (by first|exact HL.out.at|exact (HL.out.drewN _).at) (by omega) (by omega) (by omega) (by omega) (by omega) (by omega) hvs).mono ?_;rintro e w' ⟨rfl,n2,rfl⟩)
  | (go_at_call 80;refine (peek_z _ _ (by first|exact HL.out.at|exact (HL.out.drewN _).at) (by omega) (by first|exact pin|exact pin2) (by omega) (by first|exact J1|exact J3)).mono ?_;rintro e w' ⟨rfl,n3,rfl⟩)
  | (at_builtin;refine wpList_append_row _ rfl _ _ rfl w.heap.size l.length l v rfl (row_app HR.out _ _) (by simp;omega) _ 1 1 [10] rfl rfl (by decide) (new_cell _ _ _ (by first|exact hcz|rfl)) (by omega) ?_;intro v' w2 r1 n1 b1;have R1:=Lib.hid (And.intro r1 (And.intro n1 b1));clear r1 n1 b1))
 refine ⟨⟨k+2,v',l++[10],err,⟨rfl,rfl,rfl,rfl,rfl,rfl,rfl,rfl,rfl,rfl,rfl,rfl,rfl⟩,qi_add HC.out HS.out (by omega) (by omega) (by simp) R1.out.1 (below_app _ _ hsz R1.out.2.2)⟩, ?_⟩
 exact qmu_lt (k:=k) (j:=k+2) rfl rfl (by omega) (by omega)
set_option maxHeartbeats 2000000 in
set_option maxRecDepth 1000000 in
theorem quo_s114 (HC:Hid (QC w B b f s x Q q false uni idn np o k v l err wr)) (SZ:s.size≤20000) (hq3:q.size≤3) (hin2:x.at_+(k+1)<s.size)
  (hm:Hid (¬(rest s (x.at_+k)).take q.size=Q)) (hc:(s[x.at_+k].toNat:Int)=92) (hd:s[x.at_+(k+1)]=114) :
  QRound w B b f s x Q q nm false uni idn np o (QFr u b q false uni nm np (k:Int) v err) wr:=by
 have hin:x.at_+k<s.size:=by omega
 have HL:=Lib.hid HC.out.i.held.lex
 have J0:Hid (inB s (x.at_+(k:Int).toNat)=true):=by show _=_;simp [inB,hin]
 have J1:Hid (bt s (x.at_+(k:Int).toNat)=(s[x.at_+k].toNat:Int)):=by show bt s (x.at_+k)=_;exact bt_in hin
 obtain ⟨vs,hvs⟩:∃vs,Hid (s.extract (x.at_+(k:Int).toNat) (min (x.at_+((k:Int)+(q.size:Int)).toNat) s.size)=vs):=⟨_,rfl⟩
 have pin:x.at_+(k:Int).toNat<s.size:=by simpa using hin
 have hrc:=rest_cons s (x.at_+k) hin
 have hll:=look_list hin hvs
 have hcv:(vs.toList==q.toList)=false:=by
  rw [hll,HC.out.q]
  exact beq_eq_false_iff_ne.2 hm.out
 have hqs:q.size=Q.length:=by rw [←HC.out.q,toList_length]
 have hm':=hm.out
 rw [hqs,hrc] at hm'
 have HM:=Lib.hid hm'
 have HM0:Hid (¬(rest s (x.at_+k)).take Q.length=Q):=by rw [←hqs];exact hm.out
 have HQS:=Lib.hid hqs
 have HRC:=Lib.hid hrc
 have HR:=Lib.hid HC.out.i.row
 have hsz:=HC.out.i.held.grown.size
 have hlk:=HC.out.i.len
 clear hll hrc hm hm' hqs
 have J2:Hid (inB s (x.at_+((k:Int)+1).toNat)=true):=by
  show _=_
  have e:((k:Int)+1).toNat=k+1:=by omega
  rw [e];simp [inB];omega
 have J3:Hid (bt s (x.at_+((k:Int)+1).toNat)=(s[x.at_+(k+1)].toNat:Int)):=by
  have e:((k:Int)+1).toNat=k+1:=by omega
  show _=_
  rw [e];exact bt_in hin2
 have pin2:x.at_+((k:Int)+1).toNat<s.size:=by omega
 have hrc2:=rest_cons s (x.at_+(k+1)) hin2
 have hHRC:=HRC.out
 rw [show x.at_+k+1=x.at_+(k+1) from by omega,hrc2] at hHRC
 have HRC2:=Lib.hid hHRC
 clear hHRC hrc2 HRC
 rw [hd] at J3 HRC2
 have HS:Hid (lx.qStep Q false uni idn np k (rest s (x.at_+k)) l err=.more 2 (l++[13]) err):=by
  show _=_
  rw [HRC2.out]
  unfold lx.qStep
  simp only
  rw [if_neg (by rw [←HRC2.out];exact HM0.out),if_pos (by omega)]
  rfl
 clear HM HM0 HRC2
 rw [hc] at J1
 have hcz:((13:UInt8).toNat:Int)=13:=rfl
 unfold QRound QFr
 conv=>arg 2;whnf
 go_wp2_with (first
  | (go_at_call 78;refine (peekOk_z _ _ (by first|exact HL.out.at|exact (HL.out.drewN _).at) (by omega) (by omega) (by omega) (by omega) (by first|exact J0|exact J2)).mono ?_;rintro e w' ⟨rfl,n,rfl⟩)
  | (go_at_call 91;refine (slice_z _ _ vs (by first|exact HL.out.at|exact (HL.out.drewN _).at) (by omega) (by omega) (by omega) (by omega) (by omega) (by omega) hvs).mono ?_;rintro e w' ⟨rfl,n2,rfl⟩)
  | (go_at_call 80;refine (peek_z _ _ (by first|exact HL.out.at|exact (HL.out.drewN _).at) (by omega) (by first|exact pin|exact pin2) (by omega) (by first|exact J1|exact J3)).mono ?_;rintro e w' ⟨rfl,n3,rfl⟩)
  | (at_builtin;refine wpList_append_row _ rfl _ _ rfl w.heap.size l.length l v rfl (row_app HR.out _ _) (by simp;omega) _ 1 1 [13] rfl rfl (by decide) (new_cell _ _ _ (by first|exact hcz|rfl)) (by omega) ?_;intro v' w2 r1 n1 b1;have R1:=Lib.hid (And.intro r1 (And.intro n1 b1));clear r1 n1 b1))
 refine ⟨⟨k+2,v',l++[13],err,⟨rfl,rfl,rfl,rfl,rfl,rfl,rfl,rfl,rfl,rfl,rfl,rfl,rfl⟩,qi_add HC.out HS.out (by omega) (by omega) (by simp) R1.out.1 (below_app _ _ hsz R1.out.2.2)⟩, ?_⟩
 exact qmu_lt (k:=k) (j:=k+2) rfl rfl (by omega) (by omega)
set_option maxHeartbeats 2000000 in
set_option maxRecDepth 1000000 in
theorem quo_s116 (HC:Hid (QC w B b f s x Q q false uni idn np o k v l err wr)) (SZ:s.size≤20000) (hq3:q.size≤3) (hin2:x.at_+(k+1)<s.size)
  (hm:Hid (¬(rest s (x.at_+k)).take q.size=Q)) (hc:(s[x.at_+k].toNat:Int)=92) (hd:s[x.at_+(k+1)]=116) :
  QRound w B b f s x Q q nm false uni idn np o (QFr u b q false uni nm np (k:Int) v err) wr:=by
 have hin:x.at_+k<s.size:=by omega
 have HL:=Lib.hid HC.out.i.held.lex
 have J0:Hid (inB s (x.at_+(k:Int).toNat)=true):=by show _=_;simp [inB,hin]
 have J1:Hid (bt s (x.at_+(k:Int).toNat)=(s[x.at_+k].toNat:Int)):=by show bt s (x.at_+k)=_;exact bt_in hin
 obtain ⟨vs,hvs⟩:∃vs,Hid (s.extract (x.at_+(k:Int).toNat) (min (x.at_+((k:Int)+(q.size:Int)).toNat) s.size)=vs):=⟨_,rfl⟩
 have pin:x.at_+(k:Int).toNat<s.size:=by simpa using hin
 have hrc:=rest_cons s (x.at_+k) hin
 have hll:=look_list hin hvs
 have hcv:(vs.toList==q.toList)=false:=by
  rw [hll,HC.out.q]
  exact beq_eq_false_iff_ne.2 hm.out
 have hqs:q.size=Q.length:=by rw [←HC.out.q,toList_length]
 have hm':=hm.out
 rw [hqs,hrc] at hm'
 have HM:=Lib.hid hm'
 have HM0:Hid (¬(rest s (x.at_+k)).take Q.length=Q):=by rw [←hqs];exact hm.out
 have HQS:=Lib.hid hqs
 have HRC:=Lib.hid hrc
 have HR:=Lib.hid HC.out.i.row
 have hsz:=HC.out.i.held.grown.size
 have hlk:=HC.out.i.len
 clear hll hrc hm hm' hqs
 have J2:Hid (inB s (x.at_+((k:Int)+1).toNat)=true):=by
  show _=_
  have e:((k:Int)+1).toNat=k+1:=by omega
  rw [e];simp [inB];omega
 have J3:Hid (bt s (x.at_+((k:Int)+1).toNat)=(s[x.at_+(k+1)].toNat:Int)):=by
  have e:((k:Int)+1).toNat=k+1:=by omega
  show _=_
  rw [e];exact bt_in hin2
 have pin2:x.at_+((k:Int)+1).toNat<s.size:=by omega
 have hrc2:=rest_cons s (x.at_+(k+1)) hin2
 have hHRC:=HRC.out
 rw [show x.at_+k+1=x.at_+(k+1) from by omega,hrc2] at hHRC
 have HRC2:=Lib.hid hHRC
 clear hHRC hrc2 HRC
 rw [hd] at J3 HRC2
 have HS:Hid (lx.qStep Q false uni idn np k (rest s (x.at_+k)) l err=.more 2 (l++[9]) err):=by
  show _=_
  rw [HRC2.out]
  unfold lx.qStep
  simp only
  rw [if_neg (by rw [←HRC2.out];exact HM0.out),if_pos (by omega)]
  rfl
 clear HM HM0 HRC2
 rw [hc] at J1
 have hcz:((9:UInt8).toNat:Int)=9:=rfl
 unfold QRound QFr
 conv=>arg 2;whnf
 go_wp2_with (first
  | (go_at_call 78;refine (peekOk_z _ _ (by first|exact HL.out.at|exact (HL.out.drewN _).at) (by omega) (by omega) (by omega) (by omega) (by first|exact J0|exact J2)).mono ?_;rintro e w' ⟨rfl,n,rfl⟩)
  | (go_at_call 91;refine (slice_z _ _ vs (by first|exact HL.out.at|exact (HL.out.drewN _).at) (by omega) (by omega) (by omega) (by omega) (by omega) (by omega) hvs).mono ?_;rintro e w' ⟨rfl,n2,rfl⟩)
  | (go_at_call 80;refine (peek_z _ _ (by first|exact HL.out.at|exact (HL.out.drewN _).at) (by omega) (by first|exact pin|exact pin2) (by omega) (by first|exact J1|exact J3)).mono ?_;rintro e w' ⟨rfl,n3,rfl⟩)
  | (at_builtin;refine wpList_append_row _ rfl _ _ rfl w.heap.size l.length l v rfl (row_app HR.out _ _) (by simp;omega) _ 1 1 [9] rfl rfl (by decide) (new_cell _ _ _ (by first|exact hcz|rfl)) (by omega) ?_;intro v' w2 r1 n1 b1;have R1:=Lib.hid (And.intro r1 (And.intro n1 b1));clear r1 n1 b1))
 refine ⟨⟨k+2,v',l++[9],err,⟨rfl,rfl,rfl,rfl,rfl,rfl,rfl,rfl,rfl,rfl,rfl,rfl,rfl⟩,qi_add HC.out HS.out (by omega) (by omega) (by simp) R1.out.1 (below_app _ _ hsz R1.out.2.2)⟩, ?_⟩
 exact qmu_lt (k:=k) (j:=k+2) rfl rfl (by omega) (by omega)
set_option maxHeartbeats 2000000 in
set_option maxRecDepth 1000000 in
theorem quo_s118 (HC:Hid (QC w B b f s x Q q false uni idn np o k v l err wr)) (SZ:s.size≤20000) (hq3:q.size≤3) (hin2:x.at_+(k+1)<s.size)
  (hm:Hid (¬(rest s (x.at_+k)).take q.size=Q)) (hc:(s[x.at_+k].toNat:Int)=92) (hd:s[x.at_+(k+1)]=118) :
  QRound w B b f s x Q q nm false uni idn np o (QFr u b q false uni nm np (k:Int) v err) wr:=by
 have hin:x.at_+k<s.size:=by omega
 have HL:=Lib.hid HC.out.i.held.lex
 have J0:Hid (inB s (x.at_+(k:Int).toNat)=true):=by show _=_;simp [inB,hin]
 have J1:Hid (bt s (x.at_+(k:Int).toNat)=(s[x.at_+k].toNat:Int)):=by show bt s (x.at_+k)=_;exact bt_in hin
 obtain ⟨vs,hvs⟩:∃vs,Hid (s.extract (x.at_+(k:Int).toNat) (min (x.at_+((k:Int)+(q.size:Int)).toNat) s.size)=vs):=⟨_,rfl⟩
 have pin:x.at_+(k:Int).toNat<s.size:=by simpa using hin
 have hrc:=rest_cons s (x.at_+k) hin
 have hll:=look_list hin hvs
 have hcv:(vs.toList==q.toList)=false:=by
  rw [hll,HC.out.q]
  exact beq_eq_false_iff_ne.2 hm.out
 have hqs:q.size=Q.length:=by rw [←HC.out.q,toList_length]
 have hm':=hm.out
 rw [hqs,hrc] at hm'
 have HM:=Lib.hid hm'
 have HM0:Hid (¬(rest s (x.at_+k)).take Q.length=Q):=by rw [←hqs];exact hm.out
 have HQS:=Lib.hid hqs
 have HRC:=Lib.hid hrc
 have HR:=Lib.hid HC.out.i.row
 have hsz:=HC.out.i.held.grown.size
 have hlk:=HC.out.i.len
 clear hll hrc hm hm' hqs
 have J2:Hid (inB s (x.at_+((k:Int)+1).toNat)=true):=by
  show _=_
  have e:((k:Int)+1).toNat=k+1:=by omega
  rw [e];simp [inB];omega
 have J3:Hid (bt s (x.at_+((k:Int)+1).toNat)=(s[x.at_+(k+1)].toNat:Int)):=by
  have e:((k:Int)+1).toNat=k+1:=by omega
  show _=_
  rw [e];exact bt_in hin2
 have pin2:x.at_+((k:Int)+1).toNat<s.size:=by omega
 have hrc2:=rest_cons s (x.at_+(k+1)) hin2
 have hHRC:=HRC.out
 rw [show x.at_+k+1=x.at_+(k+1) from by omega,hrc2] at hHRC
 have HRC2:=Lib.hid hHRC
 clear hHRC hrc2 HRC
 rw [hd] at J3 HRC2
 have HS:Hid (lx.qStep Q false uni idn np k (rest s (x.at_+k)) l err=.more 2 (l++[11]) err):=by
  show _=_
  rw [HRC2.out]
  unfold lx.qStep
  simp only
  rw [if_neg (by rw [←HRC2.out];exact HM0.out),if_pos (by omega)]
  rfl
 clear HM HM0 HRC2
 rw [hc] at J1
 have hcz:((11:UInt8).toNat:Int)=11:=rfl
 unfold QRound QFr
 conv=>arg 2;whnf
 go_wp2_with (first
  | (go_at_call 78;refine (peekOk_z _ _ (by first|exact HL.out.at|exact (HL.out.drewN _).at) (by omega) (by omega) (by omega) (by omega) (by first|exact J0|exact J2)).mono ?_;rintro e w' ⟨rfl,n,rfl⟩)
  | (go_at_call 91;refine (slice_z _ _ vs (by first|exact HL.out.at|exact (HL.out.drewN _).at) (by omega) (by omega) (by omega) (by omega) (by omega) (by omega) hvs).mono ?_;rintro e w' ⟨rfl,n2,rfl⟩)
  | (go_at_call 80;refine (peek_z _ _ (by first|exact HL.out.at|exact (HL.out.drewN _).at) (by omega) (by first|exact pin|exact pin2) (by omega) (by first|exact J1|exact J3)).mono ?_;rintro e w' ⟨rfl,n3,rfl⟩)
  | (at_builtin;refine wpList_append_row _ rfl _ _ rfl w.heap.size l.length l v rfl (row_app HR.out _ _) (by simp;omega) _ 1 1 [11] rfl rfl (by decide) (new_cell _ _ _ (by first|exact hcz|rfl)) (by omega) ?_;intro v' w2 r1 n1 b1;have R1:=Lib.hid (And.intro r1 (And.intro n1 b1));clear r1 n1 b1))
 refine ⟨⟨k+2,v',l++[11],err,⟨rfl,rfl,rfl,rfl,rfl,rfl,rfl,rfl,rfl,rfl,rfl,rfl,rfl⟩,qi_add HC.out HS.out (by omega) (by omega) (by simp) R1.out.1 (below_app _ _ hsz R1.out.2.2)⟩, ?_⟩
 exact qmu_lt (k:=k) (j:=k+2) rfl rfl (by omega) (by omega)
set_option maxHeartbeats 2000000 in
set_option maxRecDepth 1000000 in
theorem quo_s92 (HC:Hid (QC w B b f s x Q q false uni idn np o k v l err wr)) (SZ:s.size≤20000) (hq3:q.size≤3) (hin2:x.at_+(k+1)<s.size)
  (hm:Hid (¬(rest s (x.at_+k)).take q.size=Q)) (hc:(s[x.at_+k].toNat:Int)=92) (hd:s[x.at_+(k+1)]=92) :
  QRound w B b f s x Q q nm false uni idn np o (QFr u b q false uni nm np (k:Int) v err) wr:=by
 have hin:x.at_+k<s.size:=by omega
 have HL:=Lib.hid HC.out.i.held.lex
 have J0:Hid (inB s (x.at_+(k:Int).toNat)=true):=by show _=_;simp [inB,hin]
 have J1:Hid (bt s (x.at_+(k:Int).toNat)=(s[x.at_+k].toNat:Int)):=by show bt s (x.at_+k)=_;exact bt_in hin
 obtain ⟨vs,hvs⟩:∃vs,Hid (s.extract (x.at_+(k:Int).toNat) (min (x.at_+((k:Int)+(q.size:Int)).toNat) s.size)=vs):=⟨_,rfl⟩
 have pin:x.at_+(k:Int).toNat<s.size:=by simpa using hin
 have hrc:=rest_cons s (x.at_+k) hin
 have hll:=look_list hin hvs
 have hcv:(vs.toList==q.toList)=false:=by
  rw [hll,HC.out.q]
  exact beq_eq_false_iff_ne.2 hm.out
 have hqs:q.size=Q.length:=by rw [←HC.out.q,toList_length]
 have hm':=hm.out
 rw [hqs,hrc] at hm'
 have HM:=Lib.hid hm'
 have HM0:Hid (¬(rest s (x.at_+k)).take Q.length=Q):=by rw [←hqs];exact hm.out
 have HQS:=Lib.hid hqs
 have HRC:=Lib.hid hrc
 have HR:=Lib.hid HC.out.i.row
 have hsz:=HC.out.i.held.grown.size
 have hlk:=HC.out.i.len
 clear hll hrc hm hm' hqs
 have J2:Hid (inB s (x.at_+((k:Int)+1).toNat)=true):=by
  show _=_
  have e:((k:Int)+1).toNat=k+1:=by omega
  rw [e];simp [inB];omega
 have J3:Hid (bt s (x.at_+((k:Int)+1).toNat)=(s[x.at_+(k+1)].toNat:Int)):=by
  have e:((k:Int)+1).toNat=k+1:=by omega
  show _=_
  rw [e];exact bt_in hin2
 have pin2:x.at_+((k:Int)+1).toNat<s.size:=by omega
 have hrc2:=rest_cons s (x.at_+(k+1)) hin2
 have hHRC:=HRC.out
 rw [show x.at_+k+1=x.at_+(k+1) from by omega,hrc2] at hHRC
 have HRC2:=Lib.hid hHRC
 clear hHRC hrc2 HRC
 rw [hd] at J3 HRC2
 have HS:Hid (lx.qStep Q false uni idn np k (rest s (x.at_+k)) l err=.more 2 (l++[92]) err):=by
  show _=_
  rw [HRC2.out]
  unfold lx.qStep
  simp only
  rw [if_neg (by rw [←HRC2.out];exact HM0.out),if_pos (by omega)]
  rfl
 clear HM HM0 HRC2
 rw [hc] at J1
 have hcz:((92:UInt8).toNat:Int)=92:=rfl
 unfold QRound QFr
 conv=>arg 2;whnf
 go_wp2_with (first
  | (go_at_call 78;refine (peekOk_z _ _ (by first|exact HL.out.at|exact (HL.out.drewN _).at) (by omega) (by omega) (by omega) (by omega) (by first|exact J0|exact J2)).mono ?_;rintro e w' ⟨rfl,n,rfl⟩)
  | (go_at_call 91;refine (slice_z _ _ vs (by first|exact HL.out.at|exact (HL.out.drewN _).at) (by omega) (by omega) (by omega) (by omega) (by omega) (by omega) hvs).mono ?_;rintro e w' ⟨rfl,n2,rfl⟩)
  | (go_at_call 80;refine (peek_z _ _ (by first|exact HL.out.at|exact (HL.out.drewN _).at) (by omega) (by first|exact pin|exact pin2) (by omega) (by first|exact J1|exact J3)).mono ?_;rintro e w' ⟨rfl,n3,rfl⟩)
  | (at_builtin;refine wpList_append_row _ rfl _ _ rfl w.heap.size l.length l v rfl (row_app HR.out _ _) (by simp;omega) _ 1 1 [92] rfl rfl (by decide) (new_cell _ _ _ (by first|exact hcz|rfl)) (by omega) ?_;intro v' w2 r1 n1 b1;have R1:=Lib.hid (And.intro r1 (And.intro n1 b1));clear r1 n1 b1))
 refine ⟨⟨k+2,v',l++[92],err,⟨rfl,rfl,rfl,rfl,rfl,rfl,rfl,rfl,rfl,rfl,rfl,rfl,rfl⟩,qi_add HC.out HS.out (by omega) (by omega) (by simp) R1.out.1 (below_app _ _ hsz R1.out.2.2)⟩, ?_⟩
 exact qmu_lt (k:=k) (j:=k+2) rfl rfl (by omega) (by omega)
set_option maxHeartbeats 2000000 in
set_option maxRecDepth 1000000 in
theorem quo_s63 (HC:Hid (QC w B b f s x Q q false uni idn np o k v l err wr)) (SZ:s.size≤20000) (hq3:q.size≤3) (hin2:x.at_+(k+1)<s.size)
  (hm:Hid (¬(rest s (x.at_+k)).take q.size=Q)) (hc:(s[x.at_+k].toNat:Int)=92) (hd:s[x.at_+(k+1)]=63) :
  QRound w B b f s x Q q nm false uni idn np o (QFr u b q false uni nm np (k:Int) v err) wr:=by
 have hin:x.at_+k<s.size:=by omega
 have HL:=Lib.hid HC.out.i.held.lex
 have J0:Hid (inB s (x.at_+(k:Int).toNat)=true):=by show _=_;simp [inB,hin]
 have J1:Hid (bt s (x.at_+(k:Int).toNat)=(s[x.at_+k].toNat:Int)):=by show bt s (x.at_+k)=_;exact bt_in hin
 obtain ⟨vs,hvs⟩:∃vs,Hid (s.extract (x.at_+(k:Int).toNat) (min (x.at_+((k:Int)+(q.size:Int)).toNat) s.size)=vs):=⟨_,rfl⟩
 have pin:x.at_+(k:Int).toNat<s.size:=by simpa using hin
 have hrc:=rest_cons s (x.at_+k) hin
 have hll:=look_list hin hvs
 have hcv:(vs.toList==q.toList)=false:=by
  rw [hll,HC.out.q]
  exact beq_eq_false_iff_ne.2 hm.out
 have hqs:q.size=Q.length:=by rw [←HC.out.q,toList_length]
 have hm':=hm.out
 rw [hqs,hrc] at hm'
 have HM:=Lib.hid hm'
 have HM0:Hid (¬(rest s (x.at_+k)).take Q.length=Q):=by rw [←hqs];exact hm.out
 have HQS:=Lib.hid hqs
 have HRC:=Lib.hid hrc
 have HR:=Lib.hid HC.out.i.row
 have hsz:=HC.out.i.held.grown.size
 have hlk:=HC.out.i.len
 clear hll hrc hm hm' hqs
 have J2:Hid (inB s (x.at_+((k:Int)+1).toNat)=true):=by
  show _=_
  have e:((k:Int)+1).toNat=k+1:=by omega
  rw [e];simp [inB];omega
 have J3:Hid (bt s (x.at_+((k:Int)+1).toNat)=(s[x.at_+(k+1)].toNat:Int)):=by
  have e:((k:Int)+1).toNat=k+1:=by omega
  show _=_
  rw [e];exact bt_in hin2
 have pin2:x.at_+((k:Int)+1).toNat<s.size:=by omega
 have hrc2:=rest_cons s (x.at_+(k+1)) hin2
 have hHRC:=HRC.out
 rw [show x.at_+k+1=x.at_+(k+1) from by omega,hrc2] at hHRC
 have HRC2:=Lib.hid hHRC
 clear hHRC hrc2 HRC
 rw [hd] at J3 HRC2
 have HS:Hid (lx.qStep Q false uni idn np k (rest s (x.at_+k)) l err=.more 2 (l++[63]) err):=by
  show _=_
  rw [HRC2.out]
  unfold lx.qStep
  simp only
  rw [if_neg (by rw [←HRC2.out];exact HM0.out),if_pos (by omega)]
  rfl
 clear HM HM0 HRC2
 rw [hc] at J1
 have hcz:((63:UInt8).toNat:Int)=63:=rfl
 unfold QRound QFr
 conv=>arg 2;whnf
 go_wp2_with (first
  | (go_at_call 78;refine (peekOk_z _ _ (by first|exact HL.out.at|exact (HL.out.drewN _).at) (by omega) (by omega) (by omega) (by omega) (by first|exact J0|exact J2)).mono ?_;rintro e w' ⟨rfl,n,rfl⟩)
  | (go_at_call 91;refine (slice_z _ _ vs (by first|exact HL.out.at|exact (HL.out.drewN _).at) (by omega) (by omega) (by omega) (by omega) (by omega) (by omega) hvs).mono ?_;rintro e w' ⟨rfl,n2,rfl⟩)
  | (go_at_call 80;refine (peek_z _ _ (by first|exact HL.out.at|exact (HL.out.drewN _).at) (by omega) (by first|exact pin|exact pin2) (by omega) (by first|exact J1|exact J3)).mono ?_;rintro e w' ⟨rfl,n3,rfl⟩)
  | (at_builtin;refine wpList_append_row _ rfl _ _ rfl w.heap.size l.length l v rfl (row_app HR.out _ _) (by simp;omega) _ 1 1 [63] rfl rfl (by decide) (new_cell _ _ _ (by first|exact hcz|rfl)) (by omega) ?_;intro v' w2 r1 n1 b1;have R1:=Lib.hid (And.intro r1 (And.intro n1 b1));clear r1 n1 b1))
 refine ⟨⟨k+2,v',l++[63],err,⟨rfl,rfl,rfl,rfl,rfl,rfl,rfl,rfl,rfl,rfl,rfl,rfl,rfl⟩,qi_add HC.out HS.out (by omega) (by omega) (by simp) R1.out.1 (below_app _ _ hsz R1.out.2.2)⟩, ?_⟩
 exact qmu_lt (k:=k) (j:=k+2) rfl rfl (by omega) (by omega)
set_option maxHeartbeats 2000000 in
set_option maxRecDepth 1000000 in
theorem quo_s34 (HC:Hid (QC w B b f s x Q q false uni idn np o k v l err wr)) (SZ:s.size≤20000) (hq3:q.size≤3) (hin2:x.at_+(k+1)<s.size)
  (hm:Hid (¬(rest s (x.at_+k)).take q.size=Q)) (hc:(s[x.at_+k].toNat:Int)=92) (hd:s[x.at_+(k+1)]=34) :
  QRound w B b f s x Q q nm false uni idn np o (QFr u b q false uni nm np (k:Int) v err) wr:=by
 have hin:x.at_+k<s.size:=by omega
 have HL:=Lib.hid HC.out.i.held.lex
 have J0:Hid (inB s (x.at_+(k:Int).toNat)=true):=by show _=_;simp [inB,hin]
 have J1:Hid (bt s (x.at_+(k:Int).toNat)=(s[x.at_+k].toNat:Int)):=by show bt s (x.at_+k)=_;exact bt_in hin
 obtain ⟨vs,hvs⟩:∃vs,Hid (s.extract (x.at_+(k:Int).toNat) (min (x.at_+((k:Int)+(q.size:Int)).toNat) s.size)=vs):=⟨_,rfl⟩
 have pin:x.at_+(k:Int).toNat<s.size:=by simpa using hin
 have hrc:=rest_cons s (x.at_+k) hin
 have hll:=look_list hin hvs
 have hcv:(vs.toList==q.toList)=false:=by
  rw [hll,HC.out.q]
  exact beq_eq_false_iff_ne.2 hm.out
 have hqs:q.size=Q.length:=by rw [←HC.out.q,toList_length]
 have hm':=hm.out
 rw [hqs,hrc] at hm'
 have HM:=Lib.hid hm'
 have HM0:Hid (¬(rest s (x.at_+k)).take Q.length=Q):=by rw [←hqs];exact hm.out
 have HQS:=Lib.hid hqs
 have HRC:=Lib.hid hrc
 have HR:=Lib.hid HC.out.i.row
 have hsz:=HC.out.i.held.grown.size
 have hlk:=HC.out.i.len
 clear hll hrc hm hm' hqs
 have J2:Hid (inB s (x.at_+((k:Int)+1).toNat)=true):=by
  show _=_
  have e:((k:Int)+1).toNat=k+1:=by omega
  rw [e];simp [inB];omega
 have J3:Hid (bt s (x.at_+((k:Int)+1).toNat)=(s[x.at_+(k+1)].toNat:Int)):=by
  have e:((k:Int)+1).toNat=k+1:=by omega
  show _=_
  rw [e];exact bt_in hin2
 have pin2:x.at_+((k:Int)+1).toNat<s.size:=by omega
 have hrc2:=rest_cons s (x.at_+(k+1)) hin2
 have hHRC:=HRC.out
 rw [show x.at_+k+1=x.at_+(k+1) from by omega,hrc2] at hHRC
 have HRC2:=Lib.hid hHRC
 clear hHRC hrc2 HRC
 rw [hd] at J3 HRC2
 have HS:Hid (lx.qStep Q false uni idn np k (rest s (x.at_+k)) l err=.more 2 (l++[34]) err):=by
  show _=_
  rw [HRC2.out]
  unfold lx.qStep
  simp only
  rw [if_neg (by rw [←HRC2.out];exact HM0.out),if_pos (by omega)]
  rfl
 clear HM HM0 HRC2
 rw [hc] at J1
 have hcz:((34:UInt8).toNat:Int)=34:=rfl
 unfold QRound QFr
 conv=>arg 2;whnf
 go_wp2_with (first
  | (go_at_call 78;refine (peekOk_z _ _ (by first|exact HL.out.at|exact (HL.out.drewN _).at) (by omega) (by omega) (by omega) (by omega) (by first|exact J0|exact J2)).mono ?_;rintro e w' ⟨rfl,n,rfl⟩)
  | (go_at_call 91;refine (slice_z _ _ vs (by first|exact HL.out.at|exact (HL.out.drewN _).at) (by omega) (by omega) (by omega) (by omega) (by omega) (by omega) hvs).mono ?_;rintro e w' ⟨rfl,n2,rfl⟩)
  | (go_at_call 80;refine (peek_z _ _ (by first|exact HL.out.at|exact (HL.out.drewN _).at) (by omega) (by first|exact pin|exact pin2) (by omega) (by first|exact J1|exact J3)).mono ?_;rintro e w' ⟨rfl,n3,rfl⟩)
  | (at_builtin;refine wpList_append_row _ rfl _ _ rfl w.heap.size l.length l v rfl (row_app HR.out _ _) (by simp;omega) _ 1 1 [34] rfl rfl (by decide) (new_cell _ _ _ (by first|exact hcz|rfl)) (by omega) ?_;intro v' w2 r1 n1 b1;have R1:=Lib.hid (And.intro r1 (And.intro n1 b1));clear r1 n1 b1))
 refine ⟨⟨k+2,v',l++[34],err,⟨rfl,rfl,rfl,rfl,rfl,rfl,rfl,rfl,rfl,rfl,rfl,rfl,rfl⟩,qi_add HC.out HS.out (by omega) (by omega) (by simp) R1.out.1 (below_app _ _ hsz R1.out.2.2)⟩, ?_⟩
 exact qmu_lt (k:=k) (j:=k+2) rfl rfl (by omega) (by omega)
set_option maxHeartbeats 2000000 in
set_option maxRecDepth 1000000 in
theorem quo_s39 (HC:Hid (QC w B b f s x Q q false uni idn np o k v l err wr)) (SZ:s.size≤20000) (hq3:q.size≤3) (hin2:x.at_+(k+1)<s.size)
  (hm:Hid (¬(rest s (x.at_+k)).take q.size=Q)) (hc:(s[x.at_+k].toNat:Int)=92) (hd:s[x.at_+(k+1)]=39) :
  QRound w B b f s x Q q nm false uni idn np o (QFr u b q false uni nm np (k:Int) v err) wr:=by
 have hin:x.at_+k<s.size:=by omega
 have HL:=Lib.hid HC.out.i.held.lex
 have J0:Hid (inB s (x.at_+(k:Int).toNat)=true):=by show _=_;simp [inB,hin]
 have J1:Hid (bt s (x.at_+(k:Int).toNat)=(s[x.at_+k].toNat:Int)):=by show bt s (x.at_+k)=_;exact bt_in hin
 obtain ⟨vs,hvs⟩:∃vs,Hid (s.extract (x.at_+(k:Int).toNat) (min (x.at_+((k:Int)+(q.size:Int)).toNat) s.size)=vs):=⟨_,rfl⟩
 have pin:x.at_+(k:Int).toNat<s.size:=by simpa using hin
 have hrc:=rest_cons s (x.at_+k) hin
 have hll:=look_list hin hvs
 have hcv:(vs.toList==q.toList)=false:=by
  rw [hll,HC.out.q]
  exact beq_eq_false_iff_ne.2 hm.out
 have hqs:q.size=Q.length:=by rw [←HC.out.q,toList_length]
 have hm':=hm.out
 rw [hqs,hrc] at hm'
 have HM:=Lib.hid hm'
 have HM0:Hid (¬(rest s (x.at_+k)).take Q.length=Q):=by rw [←hqs];exact hm.out
 have HQS:=Lib.hid hqs
 have HRC:=Lib.hid hrc
 have HR:=Lib.hid HC.out.i.row
 have hsz:=HC.out.i.held.grown.size
 have hlk:=HC.out.i.len
 clear hll hrc hm hm' hqs
 have J2:Hid (inB s (x.at_+((k:Int)+1).toNat)=true):=by
  show _=_
  have e:((k:Int)+1).toNat=k+1:=by omega
  rw [e];simp [inB];omega
 have J3:Hid (bt s (x.at_+((k:Int)+1).toNat)=(s[x.at_+(k+1)].toNat:Int)):=by
  have e:((k:Int)+1).toNat=k+1:=by omega
  show _=_
  rw [e];exact bt_in hin2
 have pin2:x.at_+((k:Int)+1).toNat<s.size:=by omega
 have hrc2:=rest_cons s (x.at_+(k+1)) hin2
 have hHRC:=HRC.out
 rw [show x.at_+k+1=x.at_+(k+1) from by omega,hrc2] at hHRC
 have HRC2:=Lib.hid hHRC
 clear hHRC hrc2 HRC
 rw [hd] at J3 HRC2
 have HS:Hid (lx.qStep Q false uni idn np k (rest s (x.at_+k)) l err=.more 2 (l++[39]) err):=by
  show _=_
  rw [HRC2.out]
  unfold lx.qStep
  simp only
  rw [if_neg (by rw [←HRC2.out];exact HM0.out),if_pos (by omega)]
  rfl
 clear HM HM0 HRC2
 rw [hc] at J1
 have hcz:((39:UInt8).toNat:Int)=39:=rfl
 unfold QRound QFr
 conv=>arg 2;whnf
 go_wp2_with (first
  | (go_at_call 78;refine (peekOk_z _ _ (by first|exact HL.out.at|exact (HL.out.drewN _).at) (by omega) (by omega) (by omega) (by omega) (by first|exact J0|exact J2)).mono ?_;rintro e w' ⟨rfl,n,rfl⟩)
  | (go_at_call 91;refine (slice_z _ _ vs (by first|exact HL.out.at|exact (HL.out.drewN _).at) (by omega) (by omega) (by omega) (by omega) (by omega) (by omega) hvs).mono ?_;rintro e w' ⟨rfl,n2,rfl⟩)
  | (go_at_call 80;refine (peek_z _ _ (by first|exact HL.out.at|exact (HL.out.drewN _).at) (by omega) (by first|exact pin|exact pin2) (by omega) (by first|exact J1|exact J3)).mono ?_;rintro e w' ⟨rfl,n3,rfl⟩)
  | (at_builtin;refine wpList_append_row _ rfl _ _ rfl w.heap.size l.length l v rfl (row_app HR.out _ _) (by simp;omega) _ 1 1 [39] rfl rfl (by decide) (new_cell _ _ _ (by first|exact hcz|rfl)) (by omega) ?_;intro v' w2 r1 n1 b1;have R1:=Lib.hid (And.intro r1 (And.intro n1 b1));clear r1 n1 b1))
 refine ⟨⟨k+2,v',l++[39],err,⟨rfl,rfl,rfl,rfl,rfl,rfl,rfl,rfl,rfl,rfl,rfl,rfl,rfl⟩,qi_add HC.out HS.out (by omega) (by omega) (by simp) R1.out.1 (below_app _ _ hsz R1.out.2.2)⟩, ?_⟩
 exact qmu_lt (k:=k) (j:=k+2) rfl rfl (by omega) (by omega)
set_option maxHeartbeats 2000000 in
set_option maxRecDepth 1000000 in
theorem quo_s96 (HC:Hid (QC w B b f s x Q q false uni idn np o k v l err wr)) (SZ:s.size≤20000) (hq3:q.size≤3) (hin2:x.at_+(k+1)<s.size)
  (hm:Hid (¬(rest s (x.at_+k)).take q.size=Q)) (hc:(s[x.at_+k].toNat:Int)=92) (hd:s[x.at_+(k+1)]=96) :
  QRound w B b f s x Q q nm false uni idn np o (QFr u b q false uni nm np (k:Int) v err) wr:=by
 have hin:x.at_+k<s.size:=by omega
 have HL:=Lib.hid HC.out.i.held.lex
 have J0:Hid (inB s (x.at_+(k:Int).toNat)=true):=by show _=_;simp [inB,hin]
 have J1:Hid (bt s (x.at_+(k:Int).toNat)=(s[x.at_+k].toNat:Int)):=by show bt s (x.at_+k)=_;exact bt_in hin
 obtain ⟨vs,hvs⟩:∃vs,Hid (s.extract (x.at_+(k:Int).toNat) (min (x.at_+((k:Int)+(q.size:Int)).toNat) s.size)=vs):=⟨_,rfl⟩
 have pin:x.at_+(k:Int).toNat<s.size:=by simpa using hin
 have hrc:=rest_cons s (x.at_+k) hin
 have hll:=look_list hin hvs
 have hcv:(vs.toList==q.toList)=false:=by
  rw [hll,HC.out.q]
  exact beq_eq_false_iff_ne.2 hm.out
 have hqs:q.size=Q.length:=by rw [←HC.out.q,toList_length]
 have hm':=hm.out
 rw [hqs,hrc] at hm'
 have HM:=Lib.hid hm'
 have HM0:Hid (¬(rest s (x.at_+k)).take Q.length=Q):=by rw [←hqs];exact hm.out
 have HQS:=Lib.hid hqs
 have HRC:=Lib.hid hrc
 have HR:=Lib.hid HC.out.i.row
 have hsz:=HC.out.i.held.grown.size
 have hlk:=HC.out.i.len
 clear hll hrc hm hm' hqs
 have J2:Hid (inB s (x.at_+((k:Int)+1).toNat)=true):=by
  show _=_
  have e:((k:Int)+1).toNat=k+1:=by omega
  rw [e];simp [inB];omega
 have J3:Hid (bt s (x.at_+((k:Int)+1).toNat)=(s[x.at_+(k+1)].toNat:Int)):=by
  have e:((k:Int)+1).toNat=k+1:=by omega
  show _=_
  rw [e];exact bt_in hin2
 have pin2:x.at_+((k:Int)+1).toNat<s.size:=by omega
 have hrc2:=rest_cons s (x.at_+(k+1)) hin2
 have hHRC:=HRC.out
 rw [show x.at_+k+1=x.at_+(k+1) from by omega,hrc2] at hHRC
 have HRC2:=Lib.hid hHRC
 clear hHRC hrc2 HRC
 rw [hd] at J3 HRC2
 have HS:Hid (lx.qStep Q false uni idn np k (rest s (x.at_+k)) l err=.more 2 (l++[96]) err):=by
  show _=_
  rw [HRC2.out]
  unfold lx.qStep
  simp only
  rw [if_neg (by rw [←HRC2.out];exact HM0.out),if_pos (by omega)]
  rfl
 clear HM HM0 HRC2
 rw [hc] at J1
 have hcz:((96:UInt8).toNat:Int)=96:=rfl
 unfold QRound QFr
 conv=>arg 2;whnf
 go_wp2_with (first
  | (go_at_call 78;refine (peekOk_z _ _ (by first|exact HL.out.at|exact (HL.out.drewN _).at) (by omega) (by omega) (by omega) (by omega) (by first|exact J0|exact J2)).mono ?_;rintro e w' ⟨rfl,n,rfl⟩)
  | (go_at_call 91;refine (slice_z _ _ vs (by first|exact HL.out.at|exact (HL.out.drewN _).at) (by omega) (by omega) (by omega) (by omega) (by omega) (by omega) hvs).mono ?_;rintro e w' ⟨rfl,n2,rfl⟩)
  | (go_at_call 80;refine (peek_z _ _ (by first|exact HL.out.at|exact (HL.out.drewN _).at) (by omega) (by first|exact pin|exact pin2) (by omega) (by first|exact J1|exact J3)).mono ?_;rintro e w' ⟨rfl,n3,rfl⟩)
  | (at_builtin;refine wpList_append_row _ rfl _ _ rfl w.heap.size l.length l v rfl (row_app HR.out _ _) (by simp;omega) _ 1 1 [96] rfl rfl (by decide) (new_cell _ _ _ (by first|exact hcz|rfl)) (by omega) ?_;intro v' w2 r1 n1 b1;have R1:=Lib.hid (And.intro r1 (And.intro n1 b1));clear r1 n1 b1))
 refine ⟨⟨k+2,v',l++[96],err,⟨rfl,rfl,rfl,rfl,rfl,rfl,rfl,rfl,rfl,rfl,rfl,rfl,rfl⟩,qi_add HC.out HS.out (by omega) (by omega) (by simp) R1.out.1 (below_app _ _ hsz R1.out.2.2)⟩, ?_⟩
 exact qmu_lt (k:=k) (j:=k+2) rfl rfl (by omega) (by omega)
end
end Go.Proofs.YtaamolahbkgofaaGreatDoor.lex
