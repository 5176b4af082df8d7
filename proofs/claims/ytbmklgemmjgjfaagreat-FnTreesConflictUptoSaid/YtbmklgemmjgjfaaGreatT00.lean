/- Part 0: Mac, Mem. -/
import Derived.WalkKit
import Derived.WalkSpells
import Derived.WalkLawsBesides
import Derived.Lib.Hide
import Derived.RegionTactic
import Derived.KernelRfl
import Derived.Test.YtbmklgemmjgjfaaGreatProg
namespace Go.Proofs.YtbmklgemmjgjfaaGreat
open Go.RowKit Go.Maps Tryz
set_option linter.unusedVariables false
set_option linter.unusedSimpArgs false
set_option maxRecDepth 100000
set_option maxHeartbeats 400000
section
abbrev OA:=Option Addr
abbrev BA:=ByteArray
abbrev KV:=List (BA×Value)
abbrev EAW:=Exit->Act->World->Prop
abbrev AW:=Act->World->Prop
abbrev pn:Value:=.pointer none
abbrev sn:Value:=.slice none 0 0
abbrev pt(b:Nat):Value:=.pointer (some ⟨b,0,none⟩)
abbrev ad(b o:Nat):Addr:=⟨b,o,none⟩
theorem kr{P:Prop}(h:P:=by kernel_rfl):P:=h
theorem rf{P:Prop}(h:P:=by rfl):P:=h
theorem kp{P:Prop}(h:P:=by exact(show St _ _ _ _ _ _ _ from keep S)):P:=h
theorem om{P:Prop}(h:P:=by omega):P:=h
theorem gx{α:Type}{l:List α}{i:Nat}(h:i<l.length):∃x,l[i]?=some x:=⟨_,List.getElem?_eq_getElem h⟩
theorem Hd{p:Prop}(h:p):Hid p:=h
theorem nd3{a b c:Prop}(x:a)(y:b)(z:c):a/\b/\c:=⟨x,y,z⟩
theorem nd4{a b c d:Prop}(x:a)(y:b)(z:c)(u:d):a/\b/\c/\d:=⟨x,y,z,u⟩
theorem nd5{a b c d e:Prop}(x:a)(y:b)(z:c)(u:d)(v:e):a/\b/\c/\d/\e:=⟨x,y,z,u,v⟩
theorem nd6{a b c d e f:Prop}(x:a)(y:b)(z:c)(u:d)(v:e)(w:f):a/\b/\c/\d/\e/\f:=⟨x,y,z,u,v,w⟩
abbrev L0c:List Value:=[.int .i64 0,.int .i64 0,.float .f64 0,.string ⟨#[]⟩,sn,sn]
abbrev L0e(x0 x1:Int)(x2:Nat)(x3:BA)(x4:OA)(x5 x6:Nat)(x7:OA)(x8 x9:Nat):List Value:=[.int .i64 x0,.int .i64 x1,.float .f64 x2,.string x3,.slice x4 x5 x6,.slice x7 x8 x9]
abbrev L0f(x0 x1 x2 x3:Nat)(x4:OA)(x5 x6 x7 x8:Nat):List Value:=[.iface 339 (pt x0),pt x1,pt x2,pn,pn,pn,pn,.bool false,pt x3,.slice x4 x5 x6,pt x7,.iface 340 (pt x8)]
abbrev L0g(x0 x1:Nat):List Value:=[.string ⟨#[95,95,117,110,116,121,112,101,100,95,100,101,100,117,99,101,100,95]⟩,.string ⟨#[117,110,116,121,112,101,100]⟩,.slice (some ⟨x0,0,none⟩) 1 1,.slice (some ⟨x1,0,none⟩) 1 1]
abbrev L0h(x0 x1:Nat):List Value:=[.string ⟨#[95,95,117,110,116,121,112,101,100,95,97,116,111,109,105,99,95]⟩,.string ⟨#[117,110,116,121,112,101,100]⟩,.slice (some ⟨x0,0,none⟩) 1 1,.slice (some ⟨x1,0,none⟩) 1 1]
abbrev L0i(x0:BA):List Value:=[.int .i64 0,.string x0,sn,sn,.int .i64 0,.int .i64 0,.float .f64 0,.string ⟨#[]⟩,sn,sn,.int .i64 0]
abbrev L0m(x0 x1 x2:Nat)(x3:Bool)(x4:OA)(x5:Nat):List Value:=[.iface 339 (pt x0),pt x1,pt x2,pn,pn,pn,pn,.bool false,.bool x3,.pointer x4,.iface 340 (pt x5)]
abbrev L0o(x0 x1 x2:OA):List Value:=[.pointer x0,.pointer x1,.pointer x2]
abbrev L0p(x0 x1 x2 x3:Nat)(x4:OA)(x5 x6:Nat)(x7:OA)(x8:Nat):List Value:=[.iface 339 (pt x0),.iface 339 (pt x1),pt x2,pt x3,pn,pn,pn,pn,.bool false,.slice x4 x5 x6,.func (.func 182) #[] #[],.nilFunc,pn,.bool false,.pointer x7,.iface 340 (pt x8)]
abbrev L0q:List Value:=[sn,.bool true,.string ⟨#[95,95,117,110,116,121,112,101,100,95,100,101,100,117,99,101,100,95]⟩,.string ⟨#[]⟩,sn,sn,.string ⟨#[]⟩,.string ⟨#[115,101,112,97,114,97,98,108,101]⟩]
abbrev L0r(x0 x1 x2:Nat)(x3:OA)(x4 x5:Nat)(x6:OA)(x7:Nat):List Value:=[.nilIface,.iface 339 (pt x0),pt x1,pt x2,pn,pn,pn,pn,.bool false,.slice x3 x4 x5,.func (.func 182) #[] #[],.nilFunc,pn,.bool false,.pointer x6,.iface 340 (pt x7)]
abbrev L0s(x0 x1 x2:Nat)(x3:OA)(x4 x5:Nat)(x6:OA)(x7:Nat):List Value:=[.iface 339 (pt x0),.nilIface,pt x1,pt x2,pn,pn,pn,pn,.bool false,.slice x3 x4 x5,.func (.func 182) #[] #[],.nilFunc,pn,.bool false,.pointer x6,.iface 340 (pt x7)]
abbrev L0t(x0 x1 x2:Nat)(x3:OA)(x4 x5 x6:Nat)(x7:OA)(x8:Nat):List Value:=[.nilIface,.iface 339 (pt x0),pt x1,pt x2,pn,pn,pn,pn,.bool false,.slice x3 x4 x5,pt x6,.bool false,.pointer x7,.iface 340 (pt x8)]
abbrev L0u(x0 x1 x2:Nat)(x3:OA)(x4 x5 x6:Nat)(x7:OA)(x8:Nat):List Value:=[.iface 339 (pt x0),.nilIface,pt x1,pt x2,pn,pn,pn,pn,.bool false,.slice x3 x4 x5,pt x6,.bool false,.pointer x7,.iface 340 (pt x8)]
abbrev L0v(x0 x1 x2 x3:Nat)(x4:OA)(x5 x6:Nat)(x7:OA)(x8:Nat):List Value:=[.iface 339 (pt x0),pt x1,pt x2,pn,pn,pn,pn,.bool false,pt x3,.slice x4 x5 x6,.pointer x7,.iface 340 (pt x8)]
abbrev L0x:List Value:=[sn,.bool true,.string ⟨#[95,95,117,110,116,121,112,101,100,95,97,116,111,109,105,99,95]⟩,.string ⟨#[]⟩,sn,sn,.string ⟨#[]⟩,.string ⟨#[97,116,111,109,105,99]⟩]
abbrev L0y:List Value:=[.bool true,.string ⟨#[95,95,117,110,116,121,112,101,100,95,97,116,111,109,105,99,95]⟩,.string ⟨#[]⟩,sn,sn,.string ⟨#[]⟩,.string ⟨#[97,116,111,109,105,99]⟩,sn]
abbrev L0z(x0 x1 x2 x3:Nat)(x4:OA)(x5 x6 x7:Nat)(x8:OA)(x9:Nat):List Value:=[.iface 339 (pt x0),.iface 339 (pt x1),pt x2,pt x3,pn,pn,pn,pn,.bool false,.slice x4 x5 x6,pt x7,.bool false,.pointer x8,.iface 340 (pt x9)]
abbrev L1a(x0:Nat)(x1:BA):List Value:=[sn,sn,pt x0,pn,pn,pn,pn,.bool false,.string x1]
abbrev L1b(x0:Nat):List Value:=[pt x0,pn,pn,pn,pn,.bool false]
abbrev L1c(x0 x1 x2:Nat):List Value:=[.iface 339 (pt x0),pt x1,pn,pn,pn,pn,.bool false,pt x2]
abbrev L1d(x0 x1 x2:Nat)(x3:Bool)(x4 x5:Nat):List Value:=[.iface 339 (pt x0),pt x1,pt x2,pn,pn,pn,pn,.bool false,.bool x3,pt x4,.iface 340 (pt x5)]
abbrev L1e:List Value:=[.int .i64 0,.string ⟨#[]⟩,sn,sn,.int .i64 0,.int .i64 0,.float .f64 0,.string ⟨#[]⟩,sn,sn,.int .i64 0]
abbrev L1f(x0 x1:Nat):List Value:=[.string ⟨#[117,110,116,121,112,101,100]⟩,.slice (some ⟨x0,0,none⟩) 1 1,.slice (some ⟨x1,0,none⟩) 1 1]
abbrev L1g(x0 x1 x2 x3:Nat)(x4:OA)(x5 x6 x7:Nat)(x8:OA)(x9:Nat):List Value:=[.iface 339 (pt x0),.iface 339 (pt x1),pt x2,pt x3,pn,pn,pn,pn,.bool false,.slice x4 x5 x6,pt x7,.bool true,.pointer x8,.iface 340 (pt x9)]
abbrev L1h(x0 x1 x2 x3:Nat):List Value:=[pt x0,pt x1,pt x2,pt x3,pn,pn,pn,pn,.bool false,sn,.bool false,pn,pn,pn]
abbrev L1i(x0:Int)(x1:Nat)(x2:BA)(x3:OA)(x4 x5:Nat)(x6:OA)(x7 x8:Nat):List Value:=[.int .i64 6,.int .i64 x0,.float .f64 x1,.string x2,.slice x3 x4 x5,.slice x6 x7 x8]
abbrev L1j:List Value:=[sn,.bool false,.string ⟨#[]⟩,.string ⟨#[]⟩,sn,sn,.string ⟨#[]⟩,.int .i64 0,.int .i64 0,.float .f64 0,.string ⟨#[]⟩,sn,sn,sn,sn,sn,sn,.bool false,.bool false,sn,.string ⟨#[]⟩,.bool false]
abbrev L1k(x0 x1 x2 x3:Nat):List Value:=[.string ⟨#[95,95,117,110,116,121,112,101,100,95,97,116,111,109,105,99,95]⟩,.string ⟨#[117,110,116,121,112,101,100]⟩,.slice (some ⟨x0,0,none⟩) 1 1,.slice (some ⟨x1,0,none⟩) 1 1,.string ⟨#[95,95,117,110,116,121,112,101,100,95,100,101,100,117,99,101,100,95]⟩,.string ⟨#[117,110,116,121,112,101,100]⟩,.slice (some ⟨x2,0,none⟩) 1 1,.slice (some ⟨x3,0,none⟩) 1 1]
abbrev L1m(x0:Nat):List Value:=[pt x0,pn,pn,pn]
abbrev L1n(x0:Nat)(x1:BA):List Value:=[pt x0,pn,pn,pn,pn,.bool false,.string x1,sn]
abbrev L1o(x0 x1 x2:Nat):List Value:=[pt x0,pt x1,pt x2]
abbrev L1p(x0 x1:Nat)(x2:OA)(x3 x4 x5 x6:Nat):List Value:=[.nilIface,.nilIface,pt x0,pt x1,pn,pn,pn,pn,.bool false,.slice x2 x3 x4,.func (.func 182) #[] #[],.nilFunc,pn,.bool false,pt x5,.iface 340 (pt x6)]
abbrev L1q:List Value:=[.int .i64 6,.int .i64 0,.float .f64 0,.string ⟨#[]⟩,sn,sn]
abbrev L1r:List Value:=[.bool true,.string ⟨#[95,95,117,110,116,121,112,101,100,95,100,101,100,117,99,101,100,95]⟩,.string ⟨#[]⟩,sn,sn,.string ⟨#[]⟩]
abbrev L1s(x0 x1:BA):List Value:=[.bool true,.string x0,.string ⟨#[]⟩,sn,sn,.string ⟨#[]⟩,.string x1,sn]
abbrev L1t(x0 x1 x2 x3:Nat):List Value:=[sn,pt x0,pt x1,pn,pn,pn,pn,.bool false,.map (some x2),.map (some x3)]
abbrev L1u:List Value:=[.bool false,sn,.bool false,.int .i64 0,.int .i64 0,.float .f64 0,.string ⟨#[]⟩,sn,sn,sn]
abbrev L1v(x0 x1:Nat)(x2:OA)(x3 x4 x5 x6 x7:Nat):List Value:=[.nilIface,.nilIface,pt x0,pt x1,pn,pn,pn,pn,.bool false,.slice x2 x3 x4,pt x5,.bool false,pt x6,.iface 340 (pt x7)]
abbrev L1w(x0:OA)(x1 x2:Nat):List Value:=[.int .i64 5,.int .i64 0,.float .f64 0,.string ⟨#[]⟩,sn,.slice x0 x1 x2]
abbrev L1x:List Value:=[.string ⟨#[]⟩,.string ⟨#[]⟩,.bool false,sn]
abbrev L1y(x0 x1:BA)(x2:Bool)(x3:OA)(x4 x5:Nat):List Value:=[.string x0,.string x1,.bool x2,.slice x3 x4 x5]
abbrev L1z:List Value:=[sn,pn,pn,pn,pn,pn,pn,.bool false,.map none,.map none]
abbrev L2a(x0 x1:BA)(x2 x3 x4 x5:Nat):List Value:=[.string x0,.string x1,.slice (some ⟨x2,0,none⟩) 1 x3,.slice (some ⟨x4,0,none⟩) 1 x5]
abbrev L2b:List Value:=[sn,sn,pn,pn,pn,pn,pn,.bool false,.string ⟨#[]⟩]
abbrev L2c(x0:Int)(x1:Nat)(x2:BA)(x3:OA)(x4 x5:Nat)(x6:OA)(x7 x8:Nat):List Value:=[.int .i64 1,.int .i64 x0,.float .f64 x1,.string x2,.slice x3 x4 x5,.slice x6 x7 x8]
abbrev L2d(x0 x1 x2:Nat)(x3:OA)(x4 x5 x6:Nat)(x7:OA)(x8:Nat):List Value:=[.nilIface,.iface 339 (pt x0),pt x1,pt x2,pn,pn,pn,pn,.bool false,.slice x3 x4 x5,pt x6,.bool true,.pointer x7,.iface 340 (pt x8)]
abbrev L2e(x0 x1 x2:Nat)(x3:OA)(x4 x5 x6:Nat)(x7:OA)(x8:Nat):List Value:=[.iface 339 (pt x0),.nilIface,pt x1,pt x2,pn,pn,pn,pn,.bool false,.slice x3 x4 x5,pt x6,.bool true,.pointer x7,.iface 340 (pt x8)]
abbrev L2f(x0:OA)(x1 x2:Nat)(x3:OA)(x4 x5:Nat):List Value:=[.int .i64 6,.int .i64 0,.float .f64 0,.string ⟨#[]⟩,.slice x0 x1 x2,.slice x3 x4 x5]
abbrev L2g(x0 x1 x2:Nat)(x3:Int)(x4 x5:Nat):List Value:=[.slice (some ⟨x0,0,none⟩) x1 x2,.int .i64 x3,.slice (some ⟨x4,0,none⟩) 1 x5]
abbrev L2h(x0:BA)(x1:OA)(x2 x3:Nat):List Value:=[.string x0,.slice x1 x2 x3]
abbrev L2i:List Value:=[.bool true,.string ⟨#[95,95,117,110,116,121,112,101,100,95,97,116,111,109,105,99,95]⟩,.string ⟨#[]⟩,sn,sn,.string ⟨#[]⟩]
abbrev L2j(x0:Int)(x1:Nat)(x2:BA)(x3:OA)(x4 x5:Nat)(x6:OA)(x7 x8:Nat):List Value:=[.int .i64 5,.int .i64 x0,.float .f64 x1,.string x2,.slice x3 x4 x5,.slice x6 x7 x8]
abbrev L2k(x0:Int)(x1:Nat)(x2:BA)(x3:OA)(x4 x5:Nat)(x6:OA)(x7 x8:Nat):List Value:=[.int .i64 3,.int .i64 x0,.float .f64 x1,.string x2,.slice x3 x4 x5,.slice x6 x7 x8]
abbrev L2l(x0:Int)(x1:Nat)(x2:BA)(x3:OA)(x4 x5:Nat)(x6:OA)(x7 x8:Nat):List Value:=[.int .i64 2,.int .i64 x0,.float .f64 x1,.string x2,.slice x3 x4 x5,.slice x6 x7 x8]
abbrev L2m:List Value:=[.bool false,.bool false,.string ⟨#[]⟩,.string ⟨#[]⟩,.int .i64 0,.int .i64 0,.float .f64 0,.string ⟨#[]⟩,sn,sn]
abbrev L2n(x0:BA):List Value:=[.bool true,.string x0,.string ⟨#[]⟩,sn,sn,.string ⟨#[]⟩]
abbrev L2o(x0:BA)(x1 x2 x3:Nat):List Value:=[.string x0,pt x1,pt x2,pt x3]
abbrev L2p:List Value:=[.string ⟨#[]⟩,pn,pn,pn,pn,pn,.bool false,.nilIface]
abbrev L2q(x0:Value)(x1:Int)(x2 x3:Nat):List Value:=[x0,.int .i64 x1,.slice (some ⟨x2,0,none⟩) 1 x3]
abbrev L2r(x0:Nat)(x1:Value):List Value:=[sn,sn,pt x0,pn,pn,pn,pn,.bool false,x1]
abbrev L2s(x0:Int)(x1:Nat)(x2:BA)(x3:OA)(x4 x5:Nat)(x6:OA)(x7 x8:Nat):List Value:=[.int .i64 4,.int .i64 x0,.float .f64 x1,.string x2,.slice x3 x4 x5,.slice x6 x7 x8]
abbrev L2t(x0:BA)(x1:Nat):List Value:=[.string x0,.iface 339 (pt x1)]
section
variable{P Q:Prop}
theorem yz{P:Prop}(h:P:=by refine y_at rfl fun W hSw=>?_;go_simp;all_goals with_reducible rfl):P:=h
theorem wk(k:Q)(h:Hid Q->P:=by
 intro kQ;first
 |exact wl_load S rfl rfl rfl kQ.out
 |exact wl_loadW S (by rfl) rfl rfl kQ.out
 |exact Z8x (T:=35) S (by first|rfl|(simpa[Region.wanted,yielded, *]using True.intro)) (by rfl) (by rfl) (by repeat(first|exact Has.head|apply Has.tail)) (by kernel_rfl) in35 (by repeat(first|exact Sub.nil|apply Sub.here|apply Sub.skip)) kQ.out
 |exact Z8x (T:=173) S (by first|rfl|(simpa[Region.wanted,yielded, *]using True.intro)) (by rfl) (by rfl) (by repeat(first|exact Has.head|apply Has.tail)) (by kernel_rfl) Z7c (by repeat(first|exact Sub.nil|apply Sub.here|apply Sub.skip)) kQ.out
 |exact Z8x (T:=358) S (by first|rfl|(simpa[Region.wanted,yielded, *]using True.intro)) (by rfl) (by rfl) (by repeat(first|exact Has.head|apply Has.tail)) (by kernel_rfl) Q4v (by repeat(first|exact Sub.nil|apply Sub.here|apply Sub.skip)) kQ.out
 |exact wl_load1 S (by first|rfl|(simpa[Region.wanted,yielded, *]using True.intro)) (by rfl) (by rfl) (by repeat(first|exact Has.head|apply Has.tail)) (by rfl) (by kernel_rfl) kQ.out
 |exact wlf hA S kQ.out
 |exact wlf hB S kQ.out
 |exact wlf hrel S kQ.out
 |exact wlf hN0 S kQ.out
 |exact wlf hN1 S kQ.out
 |exact wlf hkc S kQ.out
 |exact wlf hkc2 S kQ.out):P:=h (Lib.hid k)
theorem Ws(k:Q)(h:Hid Q->P:=by
 intro kQ;first
 |exact Z0s S rfl rfl rfl (by constructor) (by rfl) kQ.out
 |exact wl_store S rfl rfl rfl rfl rfl kQ.out
 |exact Z5i (T:=35) S (by rfl) (by rfl) (by rfl) (by repeat(first|exact Has.head|apply Has.tail)) (by repeat(first|exact Lst.nil|apply Lst.cons)) (by exact in35.sz) (by repeat(first|exact Q1w.nil|apply Q1w.here|apply Q1w.skip)) (by rfl) (by repeat(first|exact Upd.head|apply Upd.tail)) kQ.out
 |exact Z5i (T:=173) S (by rfl) (by rfl) (by rfl) (by repeat(first|exact Has.head|apply Has.tail)) (by repeat(first|exact Lst.nil|apply Lst.cons)) (by exact Z7c.sz) (by repeat(first|exact Q1w.nil|apply Q1w.here|apply Q1w.skip)) (by rfl) (by repeat(first|exact Upd.head|apply Upd.tail)) kQ.out
 |exact Z5i (T:=358) S (by rfl) (by rfl) (by rfl) (by repeat(first|exact Has.head|apply Has.tail)) (by repeat(first|exact Lst.nil|apply Lst.cons)) (by exact Q4v.sz) (by repeat(first|exact Q1w.nil|apply Q1w.here|apply Q1w.skip)) (by rfl) (by repeat(first|exact Upd.head|apply Upd.tail)) kQ.out
 |exact wl_store1 S (by rfl) (by rfl) (by rfl) (by repeat(first|exact Has.head|apply Has.tail)) (by rfl) (by first|rfl|assumption) (by kernel_rfl) (by repeat(first|exact Q1w.nil|apply Q1w.here|apply Q1w.skip)) (by repeat(first|exact Upd.head|apply Upd.tail)) kQ.out):P:=h (Lib.hid k)
theorem wA(k:Q)(h:Hid Q->P:=by
 intro kQ;first
 |exact wl_new0 S rfl rfl kQ.out
 |exact X6x (T:=35) S (by rfl) (by rfl) in35 (by repeat(first|exact Lst.nil|apply Lst.cons)) kQ.out
 |exact X6x (T:=173) S (by rfl) (by rfl) Z7c (by repeat(first|exact Lst.nil|apply Lst.cons)) kQ.out):P:=h (Lib.hid k)
theorem wB(k:Q)(h:Hid Q->P:=by
 intro kQ;first
 |exact wl_bx S rfl rfl (by constructor) kQ.out
 |exact wl_boxN S rfl rfl rfl kQ.out
 |exact wl_box S (by rfl) (by rfl) (by repeat(first|exact Lst.nil|apply Lst.cons)) kQ.out):P:=h (Lib.hid k)
theorem wC(k:Q)(h:Hid Q->P:=by
 intro kQ;first
 |exact Z6u (t:=49) (e:=79) S (by rfl) (by rfl) underlying49 in79 (by rfl) (by repeat(first|exact Lst.nil|apply Lst.cons)) (by rfl) (by decide) (by decide) kQ.out
 |exact Z6u (t:=79) (e:=173) S (by rfl) (by rfl) underlying79 Z7c (by rfl) (by repeat(first|exact Lst.nil|apply Lst.cons)) (by rfl) (by decide) (by decide) kQ.out):P:=h (Lib.hid k)
theorem wn(k:Q)(h:Hid Q->P:=by
 intro kQ;first
 |exact wA kQ.out
 |exact wB kQ.out
 |exact wC kQ.out):P:=h (Lib.hid k)
theorem qa(k:Q)(h:Hid Q->P:=by
 intro kQ;first
 |(go_at_call 385;(first|(with_reducible refine(Q6b hx _).mono ?_)|(with_reducible refine(Q6b hk _).mono ?_));rintro e w' ⟨rfl,rfl⟩;exact kQ.out)
 |(go_at_call 380;(first|(with_reducible refine(Q8i hx _).mono ?_)|(with_reducible refine(Q8i hk _).mono ?_));rintro e w' ⟨rfl,rfl⟩;exact kQ.out)
 |(go_at_call 382;(first|(with_reducible refine(Z0y hx _).mono ?_)|(with_reducible refine(Z0y hk _).mono ?_));rintro e w' ⟨rfl,rfl⟩;exact kQ.out)
 |(go_at_call 381;(first|(with_reducible refine(Q6q hx _).mono ?_)|(with_reducible refine(Q6q hk _).mono ?_));rintro e w' ⟨rfl,rfl⟩;exact kQ.out)
 |(go_at_call 386;(first|(with_reducible refine(Q5c hx _).mono ?_)|(with_reducible refine(Q5c hk _).mono ?_));rintro e w' ⟨rfl,rfl⟩;exact kQ.out)
 |(go_at_call 383;(first|(with_reducible refine(Q8g hx _).mono ?_)|(with_reducible refine(Q8g hk _).mono ?_));rintro e w' ⟨rfl,rfl⟩;exact kQ.out)
 |(go_at_call 384;(first|(with_reducible refine(Q8k hx _).mono ?_)|(with_reducible refine(Q8k hk _).mono ?_));rintro e w' ⟨rfl,rfl⟩;exact kQ.out)
 |(go_at_call 372;(with_reducible refine(asBool_x _ _).mono ?_);rintro e w' ⟨rfl,rfl⟩;exact kQ.out)
 |(go_at_call 374;(with_reducible refine(asInt_x _ _).mono ?_);rintro e w' ⟨rfl,rfl⟩;exact kQ.out)
 |(go_at_call 373;(with_reducible refine(asFloat_x _ _).mono ?_);rintro e w' ⟨rfl,rfl⟩;exact kQ.out)
 |(go_at_call 379;(with_reducible refine(asString_x _ _).mono ?_);rintro e w' ⟨rfl,rfl⟩;exact kQ.out)):P:=h (Lib.hid k)
def Ar(is:List Nat)(f2 i:Nat):Prop:=True
theorem bT(k:Q)(h:Hid Q->P:=by
 intro kQ;first
 |exact bodyPost_ret (results_tmp rfl _ _ _) rfl kQ.out
 |exact bodyPost_ret (res_cell S rfl rfl) rfl kQ.out
 |exact bodyPost_ret (results_tmp2 rfl _ _ _) rfl kQ.out
 |exact bodyPost_ret (X1h S rfl rfl rfl) rfl kQ.out
 |exact bodyPost_ret (results_cell_row rfl _ _ _ _ _ _ _ rfl RH.out underlying35 rfl sz35) rfl kQ.out
 |exact bodyPost_ret (results_cell_row rfl _ _ _ _ _ _ _ rfl qR.out underlying35 rfl sz35) rfl kQ.out
 |exact bodyPost_ret (results_none rfl _ _ _) rfl kQ.out
 |exact bodyPost_ret (results_tmp3 rfl _ _ _) rfl kQ.out):P:=h (Lib.hid k)
theorem yq(k:Q)(h:Hid Q->P:=by
 intro kQ;simp only[Q5o,List.foldl_cons,List.foldl_nil,Act.put,List.setIfInBounds_toArray,List.set_cons_zero,List.set_cons_succ];exact kQ.out):P:=h (Lib.hid k)
theorem yp(k:Q)(h:Hid Q->P:=by
 intro kQ;simp only[Act.put,List.setIfInBounds_toArray,List.set_cons_zero,List.set_cons_succ];exact kQ.out):P:=h (Lib.hid k)
theorem tkf(k:Q)(h:Hid Q->P:=by
 intro kQ;(repeat(refine YS.step (v:=?_) ?_ ?_;rotate_left;(focus (refine y_at rfl fun W hSw=>?_;go_simp;all_goals with_reducible rfl));(try simp only[Act.put,List.setIfInBounds_toArray,List.set_cons_zero,List.set_cons_succ])));refine YS.fin ?_;(try dsimp only);exact kQ.out):P:=h (Lib.hid k)
theorem yf(k:Q)(h:Hid Q->P:=by
 intro kQ;refine YS.fin ?_;(try dsimp only);exact kQ.out):P:=h (Lib.hid k)
theorem tk0(k:Q)(h:Hid Q->P:=by
 intro kQ;(repeat(refine YS.step (v:=?_) ?_ ?_;rotate_left;(focus (first|exact Q1t rfl rfl rfl|exact Q3v rfl (by rfl) (by rfl) h1.out (by rfl)|exact y_frzSW (by rfl) (by rfl) (by rfl) rfl h2.out (by rfl)|exact y_frzSW (by rfl) (by rfl) (by rfl) rfl h3.out (by rfl)|exact yz));try refine yp ?_));refine yf ?_;exact kQ.out):P:=h (Lib.hid k)
theorem tk1(k:Q)(h:Hid Q->P:=by
 intro kQ;(repeat(refine YS.step (v:=?_) ?_ ?_;rotate_left;(focus (first|exact Q1t rfl rfl rfl|exact yz));try refine yp ?_));refine yf ?_;exact kQ.out):P:=h (Lib.hid k)
theorem tk2(k:Q)(h:Hid Q->P:=by
 intro kQ;(repeat(refine YS.step (v:=?_) ?_ ?_;rotate_left;(focus (first|exact Q1t rfl rfl rfl|exact .inr ⟨by rfl,by rfl⟩|exact yz));try refine yp ?_));refine yf ?_;exact kQ.out):P:=h (Lib.hid k)
theorem tk3(k:Q)(h:Hid Q->P:=by
 intro kQ;(repeat(refine YS.step (v:=?_) ?_ ?_;rotate_left;(focus (first|exact Q1t rfl rfl rfl|exact Z9o (by rfl) (by rfl) (by rfl) (fun W hW=>Q8r (hW.2.1 _ (List.mem_cons_self ..)) HJ.out.1) (by rfl)|exact Z9o (by rfl) (by rfl) (by rfl) (fun W hW=>Q8r (hW.2.1 _ (List.mem_cons_self ..)) HJ.out.2) (by rfl)|exact yz));try refine yp ?_));refine yf ?_;exact kQ.out):P:=h (Lib.hid k)
theorem tk4(k:Q)(h:Hid Q->P:=by
 intro kQ;(repeat(refine YS.step (v:=?_) ?_ ?_;rotate_left;(focus (first|exact Q1t rfl rfl rfl|exact y_loadW (by rfl) (by rfl) (by rfl)|exact yz));try refine yp ?_));refine yf ?_;exact kQ.out):P:=h (Lib.hid k)
theorem tk5(k:Q)(h:Hid Q->P:=by
 intro kQ;(repeat(refine YS.step (v:=?_) ?_ ?_;rotate_left;(focus (first|exact Q1t rfl rfl rfl|exact Q3v rfl (by rfl) (by rfl) HX.out.1 (by rfl)|exact Q3v rfl (by rfl) (by rfl) HX.out.2.1 (by rfl)|exact yz));try refine yp ?_));refine yf ?_;exact kQ.out):P:=h (Lib.hid k)
theorem tk6(k:Q)(h:Hid Q->P:=by
 intro kQ;(repeat(refine YS.step (v:=?_) ?_ ?_;rotate_left;(focus (first|exact Q1t rfl rfl rfl|exact Z0p (sub:=[.int .i64 vi.k,.int .i64 vi.n,.float .f64 vi.f,.string vi.s,.slice vi.a1 vi.n1 vi.c1,.slice vi.a2 vi.n2 vi.c2]) rfl (by rfl) (by rfl) (by rfl) HX.out.1 (by rfl)|exact Z0p (sub:=[.int .i64 ui.k,.int .i64 ui.n,.float .f64 ui.f,.string ui.s,.slice ui.a1 ui.n1 ui.c1,.slice ui.a2 ui.n2 ui.c2]) rfl (by rfl) (by rfl) (by rfl) HX.out.2.1 (by rfl)|exact yz));try refine yp ?_));refine yf ?_;exact kQ.out):P:=h (Lib.hid k)
theorem tk7(k:Q)(h:Hid Q->P:=by
 intro kQ;(repeat(refine YS.step (v:=?_) ?_ ?_;rotate_left;(focus (first|exact Q1t rfl rfl rfl|exact y_cells (sub:=Q0i x) rfl (by rfl) (by rfl) (by rfl) (row_pe hbk) (by rfl)|exact yz));try refine yp ?_));refine yf ?_;exact kQ.out):P:=h (Lib.hid k)
theorem tk8(k:Q)(h:Hid Q->P:=by
 intro kQ;(repeat(refine YS.step (v:=?_) ?_ ?_;rotate_left;(focus (first|exact Q1t rfl rfl rfl|exact y_lookF .nilIface rfl rfl underlying283 zer20 rfl HK.out.2.1 rfl HK.out.1 (by rw[HK.out.2.2])|exact yz));try refine yp ?_));refine yf ?_;exact kQ.out):P:=h (Lib.hid k)
theorem tk9(k:Q)(h:Hid Q->P:=by
 intro kQ;(repeat(refine YS.step (v:=?_) ?_ ?_;rotate_left;(focus (first|exact Q1t rfl rfl rfl|exact Q3v rfl (by rfl) (by rfl) hA (by rfl)|exact Q3v rfl (by rfl) (by rfl) hB (by rfl)|exact Z0p (sub:=[.pointer (some ⟨x.1,0,none⟩),.pointer none,.pointer none,.pointer none]) rfl (by rfl) (by rfl) (by rfl) (nd_pe hX) (by rfl)|exact Q3v rfl (by rfl) (by rfl) (hX 4 _ rfl) (by rfl)|exact Z0p (sub:=[.pointer (some ⟨x.1,0,none⟩),.pointer none,.pointer none,.pointer none,.pointer (some ⟨x.2,0,none⟩)]) rfl (by rfl) (by rfl) (by rfl) hX (by rfl)|exact Z0p (sub:=[.pointer (some ⟨y.1,0,none⟩),.pointer none,.pointer none,.pointer none]) rfl (by rfl) (by rfl) (by rfl) (nd_pe hY) (by rfl)|exact Q3v rfl (by rfl) (by rfl) (hY 4 _ rfl) (by rfl)|exact Z0p (sub:=[.pointer (some ⟨y.1,0,none⟩),.pointer none,.pointer none,.pointer none,.pointer (some ⟨y.2,0,none⟩)]) rfl (by rfl) (by rfl) (by rfl) hY (by rfl)|exact yz));try refine yp ?_));refine yf ?_;exact kQ.out):P:=h (Lib.hid k)
theorem tk10(k:Q)(h:Hid Q->P:=by
 intro kQ;(repeat(refine YS.step (v:=?_) ?_ ?_;rotate_left;(focus (first|exact Q1t rfl rfl rfl|exact Q3v rfl (by rfl) (by rfl) hcv (by rfl)|exact yz));try refine yp ?_));refine yf ?_;exact kQ.out):P:=h (Lib.hid k)
theorem tk11(k:Q)(h:Hid Q->P:=by
 intro kQ;(repeat(refine YS.step (v:=?_) ?_ ?_;rotate_left;(focus (first|exact Q1t rfl rfl rfl|exact Q3v rfl (by rfl) (by rfl) hA (by rfl)|exact Q3v rfl (by rfl) (by rfl) hB (by rfl)|exact Z0p (sub:=Q0i x) rfl (by rfl) (by rfl) (by rfl) hX (by rfl)|exact Z0p (sub:=Q0i y) rfl (by rfl) (by rfl) (by rfl) hY (by rfl)|exact yz));try refine yp ?_));refine yf ?_;exact kQ.out):P:=h (Lib.hid k)
theorem tk12(k:Q)(h:Hid Q->P:=by
 intro kQ;(repeat(refine YS.step (v:=?_) ?_ ?_;rotate_left;(focus (first|exact Q1t rfl rfl rfl|exact Q5w rfl (by rfl) (by rfl) (fun W hW=>(SA.out.1) W hW 0 _ rfl) (by rfl)|exact Q5w rfl (by rfl) (by rfl) (fun W hW=>(SA.out.2) W hW 0 _ rfl) (by rfl)|exact yz));try refine yp ?_));refine yf ?_;exact kQ.out):P:=h (Lib.hid k)
theorem tk13(k:Q)(h:Hid Q->P:=by
 intro kQ;(repeat(refine YS.step (v:=?_) ?_ ?_;rotate_left;(focus (first|exact Q1t rfl rfl rfl|exact Q5w rfl (by rfl) (by rfl) (fun W hW=>(SA.out.1) W hW 1 _ rfl) (by rfl)|exact Q5w rfl (by rfl) (by rfl) (fun W hW=>(SA.out.2) W hW 1 _ rfl) (by rfl)|exact yz));try refine yp ?_));refine yf ?_;exact kQ.out):P:=h (Lib.hid k)
theorem tk14(k:Q)(h:Hid Q->P:=by
 intro kQ;(repeat(refine YS.step (v:=?_) ?_ ?_;rotate_left;(focus (first|exact Q1t rfl rfl rfl|exact Q5w rfl (by rfl) (by rfl) (fun W hW=>(SA.out.1) W hW 2 _ rfl) (by rfl)|exact Q5w rfl (by rfl) (by rfl) (fun W hW=>(SA.out.2) W hW 2 _ rfl) (by rfl)|exact yz));try refine yp ?_));refine yf ?_;exact kQ.out):P:=h (Lib.hid k)
theorem tk15(k:Q)(h:Hid Q->P:=by
 intro kQ;(repeat(refine YS.step (v:=?_) ?_ ?_;rotate_left;(focus (first|exact Q1t rfl rfl rfl|exact Q5w rfl (by rfl) (by rfl) (fun W hW=>(SA.out.1) W hW 0 _ rfl) (by rfl)|exact Q5w rfl (by rfl) (by rfl) (fun W hW=>(SA.out.2) W hW 0 _ rfl) (by rfl)|exact Q3v rfl (by rfl) (by rfl) HN.out.1.1 (by rfl)|exact Q3v rfl (by rfl) (by rfl) HN.out.2.1 (by rfl)|exact yz));try refine yp ?_));refine yf ?_;exact kQ.out):P:=h (Lib.hid k)
theorem tk16(k:Q)(h:Hid Q->P:=by
 intro kQ;(repeat(refine YS.step (v:=?_) ?_ ?_;rotate_left;(focus (first|exact Q1t rfl rfl rfl|exact Q5w rfl (by rfl) (by rfl) (fun W hW=>(SA.out.1) W hW 4 _ rfl) (by rfl)|exact Q5w rfl (by rfl) (by rfl) (fun W hW=>(SA.out.2) W hW 4 _ rfl) (by rfl)|exact Q3v rfl (by rfl) (by rfl) HN.out.1.1 (by rfl)|exact Q3v rfl (by rfl) (by rfl) HN.out.2.1 (by rfl)|exact yz));try refine yp ?_));refine yf ?_;exact kQ.out):P:=h (Lib.hid k)
theorem tk17(k:Q)(h:Hid Q->P:=by
 intro kQ;(repeat(refine YS.step (v:=?_) ?_ ?_;rotate_left;(focus (first|exact Q1t rfl rfl rfl|exact Q5w rfl (by rfl) (by rfl) (fun W hW=>(SA.out.1) W hW 5 _ rfl) (by rfl)|exact Q5w rfl (by rfl) (by rfl) (fun W hW=>(SA.out.2) W hW 5 _ rfl) (by rfl)|exact Q3v rfl (by rfl) (by rfl) HN.out.1.1 (by rfl)|exact Q3v rfl (by rfl) (by rfl) HN.out.2.1 (by rfl)|exact yz));try refine yp ?_));refine yf ?_;exact kQ.out):P:=h (Lib.hid k)
theorem tk18(k:Q)(h:Hid Q->P:=by
 intro kQ;(repeat(refine YS.step (v:=?_) ?_ ?_;rotate_left;(focus (first|exact Q1t rfl rfl rfl|exact Q3v rfl (by rfl) (by rfl) (HC.out 6 _ rfl) (by rfl)|exact yz));try refine yp ?_));refine yf ?_;exact kQ.out):P:=h (Lib.hid k)
theorem tk19(k:Q)(h:Hid Q->P:=by
 intro kQ;(repeat(refine YS.step (v:=?_) ?_ ?_;rotate_left;(focus (first|exact Q1t rfl rfl rfl|exact Q3v rfl (by rfl) (by rfl) (HC.out 7 _ rfl) (by rfl)|exact yz));try refine yp ?_));refine yf ?_;exact kQ.out):P:=h (Lib.hid k)
theorem tk20(k:Q)(h:Hid Q->P:=by
 intro kQ;(repeat(refine YS.step (v:=?_) ?_ ?_;rotate_left;(focus (first|exact Q1t rfl rfl rfl|exact Q3v rfl (by rfl) (by rfl) (HC.out 8 _ rfl) (by rfl)|exact yz));try refine yp ?_));refine yf ?_;exact kQ.out):P:=h (Lib.hid k)
theorem tk21(k:Q)(h:Hid Q->P:=by
 intro kQ;(repeat(refine YS.step (v:=?_) ?_ ?_;rotate_left;(focus (first|exact Q1t rfl rfl rfl|exact Q3v rfl (by rfl) (by rfl) (HC.out 0 _ rfl) (by rfl)|exact yz));try refine yp ?_));refine yf ?_;exact kQ.out):P:=h (Lib.hid k)
theorem tk22(k:Q)(h:Hid Q->P:=by
 intro kQ;(repeat(refine YS.step (v:=?_) ?_ ?_;rotate_left;(focus (first|exact Q1t rfl rfl rfl|exact Q3v rfl (by rfl) (by rfl) (HC.out 1 _ rfl) (by rfl)|exact yz));try refine yp ?_));refine yf ?_;exact kQ.out):P:=h (Lib.hid k)
theorem tk23(k:Q)(h:Hid Q->P:=by
 intro kQ;(repeat(refine YS.step (v:=?_) ?_ ?_;rotate_left;(focus (first|exact Q1t rfl rfl rfl|exact Q5w rfl (by rfl) (by rfl) (fun W hW=>(SA.out.1) W hW 0 _ rfl) (by rfl)|exact Q5w rfl (by rfl) (by rfl) (fun W hW=>(SA.out.2) W hW 0 _ rfl) (by rfl)|exact Q3v rfl (by rfl) (by rfl) HS.out (by rfl)|exact yz));try refine yp ?_));refine yf ?_;exact kQ.out):P:=h (Lib.hid k)
theorem tk24(k:Q)(h:Hid Q->P:=by
 intro kQ;(repeat(refine YS.step (v:=?_) ?_ ?_;rotate_left;(focus (first|exact Q1t rfl rfl rfl|exact Z0p (sub:=[_]) rfl (by rfl) (by rfl) (by rfl) (X6t hM) (by rfl)|exact Z0p (sub:=[_]) rfl (by rfl) (by rfl) (by rfl) (X6t hC) (by rfl)|exact yz));try refine yp ?_));refine yf ?_;exact kQ.out):P:=h (Lib.hid k)
theorem tk25(k:Q)(h:Hid Q->P:=by
 intro kQ;(repeat(refine YS.step (v:=?_) ?_ ?_;rotate_left;(focus (first|exact Q1t rfl rfl rfl|exact Z9o (by rfl) (by rfl) (by rfl) (fun W hW=>Q8r (hW.2.1 _ (List.mem_cons_self ..)) HJ.out.2.2.1) (by rfl)|exact Z9o (by rfl) (by rfl) (by rfl) (fun W hW=>Q8r (hW.2.1 _ (List.mem_cons_self ..)) HJ.out.2.2.2) (by rfl)|exact yz));try refine yp ?_));refine yf ?_;exact kQ.out):P:=h (Lib.hid k)
theorem tk26(k:Q)(h:Hid Q->P:=by
 intro kQ;(repeat(refine YS.step (v:=?_) ?_ ?_;rotate_left;(focus (first|exact Q1t rfl rfl rfl|exact y_look .nilIface rfl rfl underlying126 X8v rfl (List.mem_cons_self ..) rfl HS.out.2.2.2.2.1 (by rw[hlk.out])|exact yz));try refine yp ?_));refine yf ?_;exact kQ.out):P:=h (Lib.hid k)
theorem tk27(k:Q)(h:Hid Q->P:=by
 intro kQ;(repeat(refine YS.step (v:=?_) ?_ ?_;rotate_left;(focus (first|exact Q1t rfl rfl rfl|exact Q3v rfl (by rfl) (by rfl) hx1.out (by rfl)|exact Q3v rfl (by rfl) (by rfl) hx2.out (by rfl)|exact yz));try refine yp ?_));refine yf ?_;exact kQ.out):P:=h (Lib.hid k)
theorem tk28(k:Q)(h:Hid Q->P:=by
 intro kQ;(repeat(refine YS.step (v:=?_) ?_ ?_;rotate_left;(focus (first|exact Q1t rfl rfl rfl|exact Q3v rfl (by rfl) (by rfl) hx0.out (by rfl)|exact yz));try refine yp ?_));refine yf ?_;exact kQ.out):P:=h (Lib.hid k)
theorem tk29(k:Q)(h:Hid Q->P:=by
 intro kQ;(repeat(refine YS.step (v:=?_) ?_ ?_;rotate_left;(focus (first|exact Q1t rfl rfl rfl|exact Q3v rfl (by rfl) (by rfl) (HA.out.2.2.2.2.2 0 _ rfl) (by rfl)|exact Q3v rfl (by rfl) (by rfl) (HA.out.2.2.2.2.2 1 _ rfl) (by rfl)|exact Q3v rfl (by rfl) (by rfl) (HA.out.2.2.2.2.2 2 _ rfl) (by rfl)|exact yz));try refine yp ?_));refine yf ?_;exact kQ.out):P:=h (Lib.hid k)
theorem tk30(k:Q)(h:Hid Q->P:=by
 intro kQ;(repeat(refine YS.step (v:=?_) ?_ ?_;rotate_left;(focus (first|exact Q1t rfl rfl rfl|exact Q3v rfl (by rfl) (by rfl) (hcb5 0 _ rfl) (by rfl)|exact Q3v rfl (by rfl) (by rfl) (hcb5 1 _ rfl) (by rfl)|exact Q3v rfl (by rfl) (by rfl) (hcb5 2 _ rfl) (by rfl)|exact yz));try refine yp ?_));refine yf ?_;exact kQ.out):P:=h (Lib.hid k)
theorem tk31(k:Q)(h:Hid Q->P:=by
 intro kQ;(repeat(refine YS.step (v:=?_) ?_ ?_;rotate_left;(focus (first|exact Q1t rfl rfl rfl|exact Q3v rfl (by rfl) (by rfl) (HT.out 7 _ rfl) (by rfl)|exact yz));try refine yp ?_));refine yf ?_;exact kQ.out):P:=h (Lib.hid k)
theorem tk32(k:Q)(h:Hid Q->P:=by
 intro kQ;(repeat(refine YS.step (v:=?_) ?_ ?_;rotate_left;(focus (first|exact Q1t rfl rfl rfl|exact Q3v rfl (by rfl) (by rfl) hcell (by rfl)|exact yz));try refine yp ?_));refine yf ?_;exact kQ.out):P:=h (Lib.hid k)
theorem tk33(k:Q)(h:Hid Q->P:=by
 intro kQ;(repeat(refine YS.step (v:=?_) ?_ ?_;rotate_left;(focus (first|exact Q1t rfl rfl rfl|exact Q3v rfl (by rfl) (by rfl) hkc2 (by rfl)|exact Q3v rfl (by rfl) (by rfl) ho2 (by rfl)|exact yz));try refine yp ?_));refine yf ?_;exact kQ.out):P:=h (Lib.hid k)
theorem tk34(k:Q)(h:Hid Q->P:=by
 intro kQ;(repeat(refine YS.step (v:=?_) ?_ ?_;rotate_left;(focus (first|exact Q1t rfl rfl rfl|exact Q5w rfl (by rfl) (by rfl) (row_lastw HW.out.1.symm) (by rfl)|exact yz));try refine yp ?_));refine yf ?_;exact kQ.out):P:=h (Lib.hid k)
theorem tk35(k:Q)(h:Hid Q->P:=by
 intro kQ;(repeat(refine YS.step (v:=?_) ?_ ?_;rotate_left;(focus (first|exact Q1t rfl rfl rfl|exact Q5w rfl (by rfl) (by rfl) (row_lastv HW.out.1.symm) (by rfl)|exact yz));try refine yp ?_));refine yf ?_;exact kQ.out):P:=h (Lib.hid k)
theorem Hy(k:Q)(h:Hid Q->P:=by
 intro kQ;refine Hk ?_;refine yf ?_;exact kQ.out):P:=h (Lib.hid k)
theorem Ht(k:Q)(h:Hid Q->P:=by
 intro kQ;refine Hk ?_;refine tk1 ?_;exact kQ.out):P:=h (Lib.hid k)
theorem Ey(k:Q)(h:Hid Q->P:=by
 intro kQ;refine Hk ?_;refine yf ?_;refine En ?_;exact kQ.out):P:=h (Lib.hid k)
theorem Et(k:Q)(h:Hid Q->P:=by
 intro kQ;refine Hk ?_;refine tk1 ?_;refine En ?_;exact kQ.out):P:=h (Lib.hid k)
theorem Yw(is:List Nat)(f2 i:Nat)(k:Q)(h:Hid Q->Ar is f2 i->P:=by intro kQ aQ;refine Hk ?_;refine yf ?_;exact WrA aQ kQ.out):P:=h (Lib.hid k) trivial
theorem Tw(is:List Nat)(f2 i:Nat)(k:Q)(h:Hid Q->Ar is f2 i->P:=by intro kQ aQ;refine Hk ?_;refine tk1 ?_;exact WrA aQ kQ.out):P:=h (Lib.hid k) trivial
theorem Zw(is:List Nat)(f2 i:Nat)(k:Q)(h:Hid Q->Ar is f2 i->P:=by intro kQ aQ;refine tk1 ?_;exact WrA aQ kQ.out):P:=h (Lib.hid k) trivial
theorem Xw(is:List Nat)(f2 i:Nat)(k:Q)(h:Hid Q->Ar is f2 i->P:=by intro kQ aQ;refine yf ?_;exact WrA aQ kQ.out):P:=h (Lib.hid k) trivial
theorem b0a{P:Prop}(h:P:=by repeat(first|exact Has.head|apply Has.tail)):P:=h
theorem b0b{P:Prop}(h:P:=by simpa using h):P:=h
theorem b0c{P:Prop}(h:P:=by first|exact S.out|exact S.out.drew|exact S.out.alloc _ rfl [.slice pa' q.length pc'] 79|exact(S.out.alloc _ rfl [.slice pa' q.length pc'] 79).drew):P:=h
theorem b0d{P:Prop}(h:P:=by first|rfl|(simp only[List.all_cons,List.all_nil,HLR.out.1,HLR.out.2,Bool.true_and,Bool.and_true];rfl)):P:=h
theorem b0e{P:Prop}(h:P:=by have:=S.out.pop;refine Hd ?_;simp only[List.flatMap_append,List.flatMap_cons,List.flatMap_nil,List.append_nil,List.length_append,List.length_cons,List.length_nil];exact this):P:=h
theorem b0f{P:Prop}(h:P:=by simp):P:=h
theorem b0g{P:Prop}(h:P:=by have:=S.out.pop;refine Hd ?_;simpa only[List.flatMap_append,List.flatMap_cons,List.flatMap_nil,List.append_nil,List.length_append,List.length_cons,List.length_nil]using this):P:=h
theorem b0h{P:Prop}(h:P:=by simp only[Q5o,List.foldl_cons,List.foldl_nil,Act.put,List.setIfInBounds_toArray,List.set_cons_zero,List.set_cons_succ];rw[e];rfl):P:=h
theorem b0i{P:Prop}(h:P:=by refine Eq.mp ?_ hown;congr 1<;>simp[Q6w,Z8a,Z8h,Q4l,V6.cells]<;>omega):P:=h
theorem b0j{P:Prop}(h:P:=by first|exact S.out|exact S.out.drew):P:=h
theorem b0k{P:Prop}(h:P:=by simp only[Q5o,List.foldl_cons,List.foldl_nil,Act.put,List.setIfInBounds_toArray,List.set_cons_zero,List.set_cons_succ]):P:=h
theorem b0l{P:Prop}(h:P:=by match i,h with|0,h|1,h|2,h|3,h|4,h|5,h=>simpa[Q4k]using h|i+6,h=>simp[Q4k]at h):P:=h
theorem b0m{P:Prop}(h:P:=by rw[hs0];exact Nat.lt_succ_self _):P:=h
theorem b0n{P:Prop}(h:P:=by simp only[fldO,Q0p];omega):P:=h
theorem b0o{P:Prop}(h:P:=by have:=HP.out;rw[HX1.out.1,HX2.out.1]at this;obtain⟨p1,p2⟩:=p;obtain⟨q1,q2⟩:=q;rw[Q2j]at this;(try rw[HX1.out.1]);(try rw[HX2.out.1]);simp only[HAB.out,HBA.out,HBR.out,Bool.false_eq_true,if_true,if_false]at this;rw[<-this];(try simp only[List.append_assoc,List.cons_append,List.nil_append])):P:=h
theorem b0p{P:Prop}(h:P:=by have:=HP.out;rw[HX1.out.1,HX2.out.1]at this;obtain⟨p1,p2⟩:=p;obtain⟨q1,q2⟩:=q;rw[Q4e]at this;(try rw[HX1.out.1]);(try rw[HX2.out.1]);simp only[HAB.out,HBA.out,HBR.out,Bool.false_eq_true,if_true,if_false]at this;rw[<-this];(try simp only[List.append_assoc,List.cons_append,List.nil_append])):P:=h
theorem b0q{P:Prop}(h:P:=by unfold maxLen;omega):P:=h
theorem b0r{P:Prop}(h:P:=by have:=HP.out;rw[HX1.out.1,HX2.out.1]at this;obtain⟨p1,p2⟩:=p;obtain⟨q1,q2⟩:=q;rw[Q2k]at this;(try rw[HX1.out.1]);(try rw[HX2.out.1]);simp only[HAB.out,HBA.out,Bool.false_eq_true,if_true,if_false]at this;rw[<-this];(try simp only[List.append_assoc,List.cons_append,List.nil_append])):P:=h
theorem b0s{P:Prop}(h:P:=by constructor):P:=h
theorem b0t{P:Prop}(h:P:=by decide):P:=h
theorem b0u{P:Prop}(h:P:=by have:=HM.out.2.2.2;simp only[FS.cnt]at this;omega):P:=h
theorem b0v{P:Prop}(h:P:=by simp[Act.eval,Act.put]):P:=h
theorem b0w{P:Prop}(h:P:=by have:=HA.out.2.2.2.1;omega):P:=h
theorem b0x{P:Prop}(h:P:=by have:=HP.out;rw[HX1.out,HX2.out,Q3i]at this;(try rw[HX1.out]);(try rw[HX2.out]);simp only[HAB.out,HBA.out,Bool.false_eq_true,if_true,if_false]at this;rw[<-this];(try simp only[List.append_assoc,List.cons_append,List.nil_append])):P:=h
theorem b0y{P:Prop}(h:P:=by have:=HP.out;rw[HX1.out,HX2.out,Q3o]at this;(try rw[HX1.out]);(try rw[HX2.out]);simp only[HAB.out,HBA.out,Bool.false_eq_true,if_true,if_false]at this;rw[<-this];(try simp only[List.append_assoc,List.cons_append,List.nil_append])):P:=h
theorem b0z{P:Prop}(h:P:=by have:=HP.out;rw[HX1.out,HX2.out,Q5l]at this;(try rw[HX1.out]);(try rw[HX2.out]);simp only[HAB.out,HBA.out,Bool.false_eq_true,if_true,if_false]at this;rw[<-this];(try simp only[List.append_assoc,List.cons_append,List.nil_append])):P:=h
theorem b1a{P:Prop}(h:P:=by have h1:=HX1.out.2;have h2:=HX2.out.2;omega):P:=h
theorem b1b{P:Prop}(h:P:=by have:=HB.out.2.1.length;omega):P:=h
theorem b1c{P:Prop}(h:P:=by obtain⟨f,ap,h1,rfl⟩:=rmF_get h;obtain⟨f',h2,h5⟩:=lessF_some (G:=cfF wf s F) h1;have h3:=HK.out.1.b _ _ _ h1;have h4:=HK.out.1.b2;have h6:=HB.out.1;exact⟨f',ap,h2,by omega,by omega⟩):P:=h
theorem b1d{P:Prop}(h:P:=by simpa using h2):P:=h
theorem b1e{P:Prop}(h:P:=by have:=HN.out.2;omega):P:=h
theorem b1f{P:Prop}(h:P:=by simpa using hf):P:=h
theorem b1g{P:Prop}(h:P:=by simpa using h1):P:=h
theorem b1h{P:Prop}(h:P:=by have:=HA.out.2.1.length;have:=HA.out.2.2.2.1;omega):P:=h
theorem b1i{P:Prop}(h:P:=by have:=S.out;simp only[List.flatMap_append,List.flatMap_cons,List.flatMap_nil,List.append_nil,List.length_append,List.length_cons,List.length_nil];exact this):P:=h
theorem b1j{P:Prop}(h:P:=by have:=HB.out.1.length;omega):P:=h
theorem b1k{P:Prop}(h:P:=by simp only[Value.slice.injEq]at hv2;exact⟨hv2.1.symm,hv2.2.2.symm⟩):P:=h
theorem b1l{P:Prop}(h:P:=by rw[HA.out.length];exact hlt):P:=h
theorem b1m{P:Prop}(h:P:=by simp only[osz]at*;omega):P:=h
theorem b1n{P:Prop}(h:P:=by simp only[Tr.kids]at hlen;omega):P:=h
theorem b1o{P:Prop}(h:P:=by obtain⟨f,ap,h1,h2⟩:=X4p h;have h3:=HK.out.1.b _ _ _ h1;have h4:=HK.out.1.b2;exact⟨f,ap,h1,by omega,by omega⟩):P:=h
theorem b1p{P:Prop}(h:P:=by rw[List.flatMap_append];exact S):P:=h
theorem b1q{P:Prop}(h:P:=by rw[hxl,<-Nat.add_mul];congr 1;omega):P:=h
theorem b1r{P:Prop}(h:P:=by simp;omega):P:=h
theorem b1s{P:Prop}(h:P:=by simp only[fldO];omega):P:=h
theorem b1t{P:Prop}(h:P:=by rw[Q5o];rfl):P:=h
theorem b1u{P:Prop}(h:P:=by have:=HB.out.2.2.2.2.1;simp only[FS.cnt]at this;omega):P:=h
theorem b1v{P:Prop}(h:P:=by have:=HA.out.2.2.2.2;omega):P:=h
theorem b1w{P:Prop}(h:P:=by rw[List.length_take];omega):P:=h
theorem b1x{P:Prop}(h:P:=by have:=HM.out.2.2.1;simp only[FS.cnt]at this;omega):P:=h
theorem b1y{P:Prop}(h:P:=by simp only;omega):P:=h
theorem b1z{P:Prop}(h:P:=by have:=HU.out.2.2.2.2.2.2;omega):P:=h
theorem b2a{P:Prop}(h:P:=by have:=HB.out.1;have:=X3s HB.out.2.1;omega):P:=h
theorem b2b{P:Prop}(h:P:=by have:=HT.out.b2;omega):P:=h
theorem b2c{P:Prop}(h:P:=by simp only[Tr.size]at hN;omega):P:=h
theorem b2d{P:Prop}(h:P:=by assumption):P:=h
theorem b2e{P:Prop}(h:P:=by rw[Array.length_toList,hRl,<-Nat.succ_mul,<-Nat.add_mul];exact Nat.mul_le_mul_right _ om):P:=h
theorem b2f{P:Prop}(h:P:=by rw[Array.length_toList,hc,<-Nat.succ_mul,<-Nat.add_mul];exact Nat.mul_le_mul_right _ om):P:=h
theorem b2g{P:Prop}(h:P:=by rw[Z8y _ HX.out.2.1,hall.out,ho];rfl):P:=h
theorem b2h{P:Prop}(h:P:=by have:=HB.out.1;simp only[List.length_append,List.length_cons,List.length_nil];omega):P:=h
theorem b2i{P:Prop}(h:P:=by have:=HB.out;omega):P:=h
theorem b2j{P:Prop}(h:P:=by simp[World.frozen?,hW,hv]):P:=h
theorem b2k{P:Prop}(h:P:=by rw[hnew,List.size_toArray,hR2l,<-Nat.succ_mul];exact Nat.mul_le_mul_right _ om):P:=h
theorem b2l{P:Prop}(h:P:=by rw[hdl,List.size_toArray,hR2l,<-Nat.add_mul];exact Nat.mul_le_mul_right _ om):P:=h
theorem b2m{P:Prop}(h:P:=by have:=congrArg List.length HT.out.2.1;simp only[List.length_map]at this;omega):P:=h
theorem b2n{P:Prop}(h:P:=by simpa using hl):P:=h
theorem b2o{P:Prop}(h:P:=by simp only[osz,Tr.size,fldO,Q0p,Bool.false_eq_true,if_false];omega):P:=h
theorem b2p{P:Prop}(h:P:=by show 1=min 1 dl;omega):P:=h
theorem b2q{P:Prop}(h:P:=by simp only[List.length_append,List.length_take,List.length_drop];omega):P:=h
theorem e0a{P:Prop}(h:P:=by(first|refine Q0z _ _ (Q0z _ _ ⟨_,results_tmp rfl _ _ _,?_⟩)|refine Q0z _ _ ⟨_,results_tmp rfl _ _ _,?_⟩);go_simp;exact ap hle5 hpost.out S.out):P:=h
theorem e0b{P:Prop}(h:P:=by rw[<-e];exact ap (gT HL.out (gT l1 l2)) ⟨rfl,rfl,bo,rfl,_,_,ns,⟨_,_,_,e2,rfl,rfl⟩,g1,g2,f1.mono l2,HO.out.imp fun _ _ k=>NdIs.mono k (gT l1 l2)⟩ S2):P:=h
theorem e0c{P:Prop}(h:P:=by obtain⟨S1,hap1,hrg1,hv1,hl1,hlt,hl,hGk,hFk⟩:=HL.out;have T:St (Mine [(mr,[],.m e1)] []) K4 K7 w1 W [(mr,[],.m (insK e1 k0 (.iface 306 (Q4o db v ap))))] []:=keep S;exact⟨_,K7,_,gT HS.out.2.2.2.2.2.2.2 HD.out.2,S1.back0 T,hrg1.kept (((HW.out.2.2.1.1.mono HN_2.out.1).mono HS.out.2.2.2.2.2.2.2).keep S1.inw T) (hap1.back T).1,(hap1.back T).2,((hv1.mono HD.out.2).ins HD.out.1 (X5d HS.out.2.2.1 HS.out.2.2.2.1)).of_eq (Z7j hFk hGk hl),Nat.le_trans (Nat.add_le_add_right (Q3r _ _ _) _) om⟩):P:=h
theorem e0d{P:Prop}(h:P:=by obtain⟨S1,hap1,hrg1,hv1,hl1,hlt,hl,hGk,hFk⟩:=HL.out;have T:St (Mine [(mr,[],.m e1)] []) K4 K7 w1 W [(mr,[],.m (insK e1 k0 (.iface 306 (Q4o db v ap))))] []:=keep S;exact⟨_,K7,_,gT HS.out.2.2.2.2.2.2.2 HD.out.2,S1.back0 T,hrg1.kept (((HW.out.2.1.1).mono HS.out.2.2.2.2.2.2.2).keep S1.inw T) (hap1.back T).1,(hap1.back T).2,((hv1.mono HD.out.2).ins HD.out.1 (X5d HS.out.2.2.1 HS.out.2.2.2.1)).of_eq (Z7j hFk hGk hl),Nat.le_trans (Nat.add_le_add_right (Q3r _ _ _) _) om⟩):P:=h
theorem e0e{P:Prop}(h:P:=by unfold Oper.wp execOp;simp only[ho,resolve,invoke,builtin,Sem.run_bind,Sem.run_pure,Result.andThen_ok,List.map_toArray,List.map_cons,List.map_nil,hd,hs,hrun];exact this):P:=h
theorem e0f{P:Prop}(h:P:=by rw[<-e];exact ap (gT l1 l2) ⟨rfl,rfl,bo,rfl,_,_,obs,⟨_,_,_,e2,rfl,rfl⟩,g1,g2,HO.out.imp fun _ _ k=>k.mono (gT l1 l2),f1.mono l2⟩ S2):P:=h
theorem e0g{P:Prop}(h:P:=by repeat(first|exact Step.refl hi|refine Step.alloc ?_ _|refine Step.drew ?_)):P:=h
theorem e0h{P:Prop}(h:P:=by exact h11.imp (fun⟨h,e⟩=>⟨by simpa using h,e⟩) (fun⟨h,b,e,e2⟩=>⟨by simpa using h,b,by simpa using e,e2⟩)):P:=h
theorem e0i{P:Prop}(h:P:=by refine bT ?_;exact ap (L:=[]) (Gh.le_refl _) ⟨rfl,rfl,rfl,rfl⟩ (show St _ _ _ _ _ _ _ from keep S)):P:=h
theorem e0j{P:Prop}(h:P:=by exact FSI.of ⟨aM,cM,bsM,⟨_,_,_,e3,rfl,rfl⟩,gM1,gM2,gM3.imp fun _ _ k=>k.mono (gT l2 l3),gM4.mono (gT l2 l3)⟩ ⟨aC,cC,nsC,⟨_,_,_,e3,rfl,rfl⟩,gC1,gC2,gC3.mono l3,gC4.imp fun _ _ k=>NdIs.mono k l3⟩):P:=h
theorem e0k{P:Prop}(h:P:=by refine bT ?_;exact .mk ((((Step.refl hi).alloc _).alloc _).setRow (hi.none om) (fun hb=>absurd hb om) _)):P:=h
theorem e0l{P:Prop}(h:P:=by(try dsimp only at hSw);go_simp;all_goals with_reducible rfl):P:=h
theorem e0m{P:Prop}(h:P:=by repeat(first|(refine(Q0m ?_).trans ?_;·(simp only[World.size_alloc];omega))|(refine Q1b ?_;simp only[World.size_alloc]))):P:=h
theorem e0n{P:Prop}(h:P:=by go_ret;exact ap (Gh.le_refl _) ⟨rfl,rfl,rfl,rfl⟩ S.out):P:=h
theorem e0o{P:Prop}(h:P:=by rw[X7s]at h1;cases hf:findK M s<;>simp[hf]at h1⊢<;>exact h1):P:=h
theorem e0p{P:Prop}(h:P:=by obtain⟨a,b,c,d,e,q⟩:=h10 b0b;exact⟨a,b,c,d,by simpa using e,q.mono hle5⟩):P:=h
theorem e0q{P:Prop}(h:P:=by refine bodyPost_ret (Q5u rfl _ _ _ _ _ _ _ rfl RH.out underlying35 rfl sz35) rfl ?_;exact .mk (ST.out.setRow (hi.none om) (fun hb=>absurd hb om) _)):P:=h
theorem e0r{P:Prop}(h:P:=by simp only[List.countP_cons,List.countP_append,List.countP_nil];ac_rfl):P:=h
theorem e0s{P:Prop}(h:P:=by obtain⟨a,e,q⟩:=h7 b0b;exact⟨a,by simpa using e,q.mono hle5⟩):P:=h
theorem e0t{P:Prop}(h:P:=by obtain⟨a,e,q⟩:=h8 b0b;exact⟨a,by simpa using e,q.mono hle5⟩):P:=h
theorem e0u{P:Prop}(h:P:=by obtain⟨a,e,q⟩:=h9 b0b;exact⟨a,by simpa using e,q.mono hle5⟩):P:=h
theorem e0v{P:Prop}(h:P:=by obtain⟨a,e,q⟩:=h4 b0b;exact⟨a,by simpa using e,q.mono hle5⟩):P:=h
theorem e0w{P:Prop}(h:P:=by go_ret;obtain⟨K1,a1,c1',l1,e1,g1,g2,f1,S1⟩:=S.out.rfreeze;simp only at e1;cases e1;obtain⟨K2,l2,e2,S2⟩:=S1.freeze;have e:=HP.out;simp only[List.drop_length,interC_nr,interC_nl,List.append_nil]at e;exact e0b):P:=h
theorem e0x{P:Prop}(h:P:=by go_ret;obtain⟨K1,a1,c1',l1,e1,g1,g2,f1,S1⟩:=S.out.rfreeze;simp only at e1;cases e1;obtain⟨K2,l2,e2,S2⟩:=S1.freeze;have e:=HP.out;simp only[List.drop_length,interL_nr,interL_nl,List.append_nil]at e;exact e0f):P:=h
theorem e0y{P:Prop}(h:P:=by exact Q0z _ _ ⟨_,results_tmp rfl _ _ _,ap (Gh.le_refl _) ⟨rfl,rfl,n2,sp2,PB2,HP.out.1,HP.out.2.1,HP.out.2.2,rfl⟩ (show St _ _ _ _ _ ((b,L0m vb sb nb d sp2 al,.t 479)::(PB2++VB)) _ from keep S)⟩):P:=h
theorem e0z{P:Prop}(h:P:=by rw[HS.out,if_neg HE.out,HW.out,if_neg HH.out];have ha:=HV.out.2.imp fun _ _ k=>Q2l.mono k hle.out;exact((ha.take k).append (.cons ⟨pa',pc',rfl,HQ.out.1,HQ.out.2.1,HQ.out.2.2⟩ .nil)).append (ha.drop k)):P:=h
theorem e1a{P:Prop}(h:P:=by go_ret;exact⟨by rw[decide_eq_false h0];rfl,S.out.step⟩):P:=h
theorem e1b{P:Prop}(h:P:=by obtain⟨b,o,e,hc⟩:=(Q2f.own (h.2.1 _ (List.mem_cons_self ..))).get (i:=N) (v:=wptr (b2,c2)) (by rw[List.getElem?_append_right (by simp[hN])];simp[hN]);cases e;rw[Nat.zero_add]at hc;exact hc):P:=h
theorem e1c{P:Prop}(h:P:=by have:=R3.out.2;rw[<-show X0g ks l (i+1)=insK (X0g ks l i) key x.tr from Z9v [] ks (trL l) i key x.tr HX.out.2.2.2.1 (by rw[Q9i,List.getElem?_map,HX.out.1];rfl)]at this;exact this):P:=h
theorem e1d{P:Prop}(h:P:=by rw[List.size_toArray,KEY.out.1.2,Array.length_toList];exact KEY.out.2.1):P:=h
theorem e1e{P:Prop}(h:P:=by exact VIs.of 6 0 0 ⟨#[]⟩ none 0 [] none 0 (vs:=[]) [] b0t ⟨Nat.le_refl _,by decide⟩ (fun x hx=>absurd hx b0f) (.inl ⟨rfl,rfl⟩) ⟨Nat.le_refl _,by decide⟩ (.inl ⟨rfl,rfl⟩) .nil):P:=h
theorem e1f{P:Prop}(h:P:=by have:=g 0 _ rfl;rw[e]at this;simp at this):P:=h
theorem e1g{P:Prop}(h:P:=by refine bT ?_;exact ap HFIN.out.1 ⟨s,cb,HG.out.2.1,.inr ⟨(by first|exact HFIN.out.2.2|exact .inl rfl),e4,rfl,rfl,rfl,hv5,HFIN.out.2.1⟩⟩ (show St _ _ _ _ _ _ _ from keep S)):P:=h
theorem e1h{P:Prop}(h:P:=by replace S:=sa S;obtain⟨K1,hle1,hk1,S1⟩:=S.out.freeze;exact ap (L:=[]) hle1 ⟨rfl,rfl,z,rfl,⟨_,_,_,hk1,rfl,rfl⟩,hx⟩ (show St _ _ _ _ _ _ _ from keep (Hd S1))):P:=h
theorem e1i{P:Prop}(h:P:=by go_ret;refine⟨?_,ST.out⟩;have:=hall.out;rw[List.take_length]at this;rw[this];rfl):P:=h
theorem e1j{P:Prop}(h:P:=by subst this;exact⟨none,0,rfl,Nat.zero_le _,Nat.zero_le _,.inl ⟨rfl,rfl⟩⟩):P:=h
theorem e1k{P:Prop}(h:P:=by go_ret;exact⟨by rw[HE.out,q1,q2];rfl,S.out.step⟩):P:=h
theorem e1l{P:Prop}(h:P:=by obtain⟨u,hu,hv⟩:=Q7y c d q h;exact⟨u,List.mem_cons_of_mem _ hu,hv.imp id fun⟨v,hv,e⟩=>⟨v,List.mem_cons_of_mem _ hv,e⟩⟩):P:=h
theorem e1m{P:Prop}(h:P:=by go_ret;exact ap (Gh.le_refl _) ⟨rfl,HI.out⟩ (keep S)):P:=h
theorem e1n{P:Prop}(h:P:=by unfold isAgg;rw[Sem.run_bind,run_underlying hd W];cases d<;>simp_all [aggD]):P:=h
theorem e1o{P:Prop}(h:P:=by rw[<-e];exact(Q8j HO.out ((Q9j i HB.out.1).imp fun _ _ k=>NdIs.mono k HL.out)).imp fun _ _ k=>NdIs.mono k (gT l1 l2)):P:=h
theorem e1p{P:Prop}(h:P:=by exact Q0z _ _ (Q0z _ _ ⟨_,results_tmp rfl _ _ _,rfl,st0 (by repeat(first|exact Step.refl hi|refine Step.alloc ?_ _))⟩)):P:=h
theorem e1q{P:Prop}(h:P:=by unfold Oper.wp execOp;simp only[ho,hx,Instr.loadAt,Instr.sureAddr,Sem.run_bind,Sem.run_pure,Result.andThen_ok,h2];exact hQ _ _ hK):P:=h
end
end
section

variable{c n k b m:Nat}
@[go_sem] theorem lt_up_2(h:c<n):c<n+1+1:=by omega
@[go_sem] theorem lt_up_3(h:c<n):c<n+1+1+1:=by omega
@[go_sem] theorem lt_up_4(h:c<n):c<n+1+1+1+1:=by omega
@[go_sem] theorem lt_up_5(h:c<n):c<n+1+1+1+1+1:=by omega
@[go_sem] theorem lt_up_6(h:c<n):c<n+1+1+1+1+1+1:=by omega
@[go_sem] theorem lt_up_7(h:c<n):c<n+1+1+1+1+1+1+1:=by omega
@[go_sem] theorem lt_up_8(h:c<n):c<n+1+1+1+1+1+1+1+1:=by omega
@[go_sem] theorem lt_up_9(h:c<n):c<n+1+1+1+1+1+1+1+1+1:=by omega
@[go_sem] theorem lt_up_10(h:c<n):c<n+1+1+1+1+1+1+1+1+1+1:=by omega
@[go_sem] theorem lt_up_11(h:c<n):c<n+1+1+1+1+1+1+1+1+1+1+1:=by omega
@[go_sem] theorem lt_up_12(h:c<n):c<n+1+1+1+1+1+1+1+1+1+1+1+1:=by omega
abbrev Gh:=Nat->Option Obj
def Gh.In(I:Gh)(w:World):Prop:=∀k o,I k=some o->w.heap[k]?=some o
def Gh.le(I J:Gh):Prop:=∀k o,I k=some o->J k=some o
def Gh.cell(I:Gh)(a:Addr)(v:Value):Prop:=∃c t f,I a.block=some (.cells c t f)/\a.spot=none/\c[a.off]?=some v
def Gh.with(I:Gh)(S:Nat->Prop)[DecidablePred S](w:World):Gh:=fun k=>if S k then w.heap[k]? else I k

theorem Gh.le_refl(I:Gh):I.le I:=fun _ _ h=>h
variable{I J:Gh}
theorem gT{K:Gh}(h:I.le J)(k:J.le K):I.le K:=fun a o e=>k a o (h a o e)
theorem gR{I:Gh}:I.le I:=fun _ _ h=>h
variable{w:World}
theorem Gh.In.mono(h:J.In w)(l:I.le J):I.In w:=fun k o e=>h k o (l k o e)
variable{v:Value}
theorem Gh.cell.mono{a:Addr}(h:I.cell a v)(l:I.le J):J.cell a v:=by
 obtain⟨c,t,f,h1,h2,h3⟩:=h;exact⟨c,t,f,l _ _ h1,h2,h3⟩
variable{o:Obj}
theorem Gh.In.lt(h:I.In w)(e:I k=some o):k<w.heap.size:=by
 have:=h k o e;exact(Array.getElem?_eq_some_iff.1 this).1
theorem Gh.cell.at{o:Nat}(h:I.cell ⟨b,o,none⟩ v)(hi:I.In w):w.cell? ⟨b,o,none⟩=some v:=by
 obtain⟨c,t,f,h1,_,h3⟩:=h;have:=hi _ _ h1;simp only[World.cell?,this];simpa using h3
theorem Gh.cell.lt{o:Nat}(h:I.cell ⟨b,o,none⟩ v)(hi:I.In w):b<w.heap.size:=by
 obtain⟨c,t,f,h1,_,_⟩:=h;exact hi.lt h1
structure Step(M:Nat->Prop)(I J:Gh)(w w':World):Prop where
 os:w'.os=w.os
 tape:w'.tape=w.tape
 output:w'.output=w.output
 size:w.heap.size<=w'.heap.size
 block:∀k,k<w.heap.size->¬M k->w'.heap[k]?=w.heap[k]?
 le:I.le J
 old:∀k,k<w.heap.size->¬M k->J k=I k
 inw:J.In w'

abbrev Nix:Nat->Prop:=fun _=>False
section
variable{M N:Nat->Prop}{I J K:Gh}{w w' w'':World}
theorem Step.refl(h:I.In w):Step M I I w w:=⟨rfl,rfl,rfl,Nat.le_refl _,fun _ _ _=>rfl,fun _ _ h=>h,fun _ _ _=>rfl,h⟩
theorem Step.trans(h:Step M I J w w')(k:Step N J K w' w'')(hm:∀b,b<w.heap.size->N b->M b):Step M I K w w'':=
 ⟨k.os.trans h.os,k.tape.trans h.tape,k.output.trans h.output,Nat.le_trans h.size k.size,
  fun b hb hn=>(k.block b (Nat.lt_of_lt_of_le hb h.size) (fun x=>hn (hm b hb x))).trans (h.block b hb hn),
  gT h.le k.le,fun b hb hn=>(k.old b (Nat.lt_of_lt_of_le hb h.size) (fun x=>hn (hm b hb x))).trans (h.old b hb hn),k.inw⟩
theorem Step.trans0(h:Step M I J w w')(k:Step Nix J K w' w''):Step M I K w w'':=h.trans k fun _ _ x=>x.elim
theorem Gh.In.alloc(h:J.In w)(o:Obj):J.In (w.alloc o):=fun k x e=>by
 rw[Below.heap_alloc w o k (h.lt e)];exact h k x e
theorem Gh.In.drew(h:J.In w):J.In w.drew:=h
theorem Gh.In.setCell(h:J.In w){a:Addr}(ha:J a.block=none)(v:Value):J.In (w.setCell a v):=fun k x e=>by
 rw[Below.heap_setCell w a v k (fun hk=>by subst hk;rw[ha]at e;cases e)];exact h k x e
theorem Step.alloc(h:Step M I J w w')(o:Obj):Step M I J w (w'.alloc o):=
 ⟨h.os,h.tape,h.output,by have:=h.size;simp;omega,
  fun k hk hn=>(Below.heap_alloc w' o k (Nat.lt_of_lt_of_le hk h.size)).trans (h.block k hk hn),h.le,h.old,h.inw.alloc o⟩
theorem Step.drew(h:Step M I J w w'):Step M I J w w'.drew:=⟨h.os,h.tape,h.output,h.size,h.block,h.le,h.old,h.inw⟩
theorem Step.drewN(h:Step M I J w w')(n:Nat):Step M I J w (w'.drewN n):=⟨h.os,h.tape,h.output,h.size,h.block,h.le,h.old,h.inw⟩
theorem Step.setCell(h:Step M I J w w'){a:Addr}(ha:J a.block=none)(hm:a.block<w.heap.size->M a.block)(v:Value):Step M I J w (w'.setCell a v):=
 ⟨h.os,h.tape,h.output,by have:=h.size;simp;omega,
  fun k hk hn=>(Below.heap_setCell w' a v k (fun e=>hn (by subst e;exact hm hk))).trans (h.block k hk hn),h.le,h.old,h.inw.setCell ha v⟩
theorem Step.grown(h:Step M I J w w'){row:Option Nat}(g:w'.grownBy w'' row)(hr:∀k,row=some k->J k=none/\(k<w.heap.size->M k)):Step M I J w w'':=by
 have hb:∀k,k<w'.heap.size->some k≠row->w''.heap[k]?=w'.heap[k]?:=g.block;refine⟨g.os.trans h.os,g.tape.trans h.tape,g.output.trans h.output,Nat.le_trans h.size g.size,fun k hk hn=>?_,h.le,h.old,fun k o e=>?_⟩
 ·exact(hb k (Nat.lt_of_lt_of_le hk h.size) (fun e=>hn ((hr k e.symm).2 hk))).trans (h.block k hk hn)
 ·exact(hb k (h.inw.lt e) (fun x=>by have:=(hr k x.symm).1;rw[e]at this;cases this)).trans (h.inw k o e)
theorem Step.heap(h:Step M I J w w'){k:Nat}{o:Obj}(e:w.heap[k]?=some o)(hn:¬M k):w'.heap[k]?=some o:=
 (h.block k (Array.getElem?_eq_some_iff.1 e).1 hn).trans e
theorem Step.cell(h:Step M I J w w'){b o:Nat}{v:Value}(e:w.cell? ⟨b,o,none⟩=some v)(hn:¬M b):w'.cell? ⟨b,o,none⟩=some v:=
 (World.cell?_of_block (h.block b (World.block_lt_of_cell? w _ e) hn)).trans e
theorem Step.lt(h:Step M I J w w'){b:Nat}(hb:b<w.heap.size):b<w'.heap.size:=Nat.lt_of_lt_of_le hb h.size
theorem Step.forget(h:Step M I J w w'):Step M I I w w':=
 ⟨h.os,h.tape,h.output,h.size,h.block,gR,fun _ _ _=>rfl,h.inw.mono h.le⟩
theorem Step.of_below(h:Below w.heap.size w w')(hi:I.In w):Step Nix I I w w':=
 ⟨h.os,h.tape,h.output,h.size,fun k hk _=>h.block k hk,gR,fun _ _ _=>rfl,fun k o e=>(h.block k (hi.lt e)).trans (hi k o e)⟩
theorem Step.freeze(h:Step M I J w w')(S:Nat->Prop)[DecidablePred S](hs:∀k,S k->J k=none)(hn:∀k,S k->k<w.heap.size->M k):Step M I (J.with S w') w w':=by
 refine⟨h.os,h.tape,h.output,h.size,h.block,fun k o e=>?_,fun k hk hm=>?_,fun k o e=>?_⟩
 ·have:=h.le k o e;unfold Gh.with
  split
  ·rename_i hS;rw[hs k hS]at this;cases this
  ·exact this
 ·unfold Gh.with
  rw[if_neg (fun hS=>hm (hn k hS hk))];exact h.old k hk hm
 ·unfold Gh.with at e;split at e
  ·exact e
  ·exact h.inw k o e
theorem Gh.le_with{S:Nat->Prop}[DecidablePred S](hs:∀k,S k->J k=none):J.le (J.with S w'):=fun k o e=>by
 unfold Gh.with
 split
 ·rename_i hS;rw[hs k hS]at e;cases e
 ·exact e
end

theorem Q1b(h:n=w.heap.size):(w.alloc o).heap[n]?=some o:=by subst h;exact heap_alloc_new w o
theorem Q0m(h:n<w.heap.size):(w.alloc o).heap[n]?=w.heap[n]?:=Below.heap_alloc w o n h
variable{f:Nat×Nat}{t:TypeId}
theorem Q0e{c:Array Value}(h:w.heap[b]?=some (.cells c t f))(i:Nat):w.cell? ⟨b,i,none⟩=c[i]?:=by simp[World.cell?,h]
theorem Q4d{c:Array Value}(h:w.heap[b]?=some (.cells c t (0,0)))(i:Nat):w.frozen? ⟨b,i,none⟩=false:=by simp[World.frozen?,h]
theorem Q1r(h:w.heap[b]?=some o):b<w.heap.size:=(Array.getElem?_eq_some_iff.1 h).1
theorem X0k{i:Nat}{c:Array Value}(h:w.heap[b]?=some (.cells c t f)):(w.setCell ⟨b,i,none⟩ v).heap[b]?=some (.cells (c.setIfInBounds i v) t f):=by
 simp only[World.setCell,Array.getElem?_modify,if_true,h];rfl
theorem Z8v(h:n≠0):((n:Int)==0)=false:=by simpa using h
theorem X5o(h:n=m):((n:Int) != m)=false:=by simp[h]
theorem int_nne(h:n≠m):((n:Int) != m)=true:=by simp;omega
theorem Q1h{α:Type}{l:List α}{a:α}(h:l[k]?=some a):l.drop k=a::l.drop (k+1):=by
 obtain⟨hk,rfl⟩:=List.getElem?_eq_some_iff.1 h;exact(List.drop_eq_getElem_cons hk)
def Got(M:Nat->Prop)(I:Gh)(w:World)(r:Value)(e:Ending)(w':World):Prop:=e=.returned r/\Step M I I w w'
inductive AK:Value->Nat->Prop
 |null:AK .nilIface 0
 |bool (b:Bool):AK (.iface 4 (.bool b)) 1
 |int (n:Int):AK (.iface 2 (.int .i64 n)) 2
 |float (n:Nat):AK (.iface 31 (.float .f64 n)) 3
 |str (s:BA):AK (.iface 9 (.string s)) 4
 |list (a:OA) (n c:Nat):AK (.iface 282 (.slice a n c)) 5
 |map (r:Option Nat):AK (.iface 283 (.map r)) 6
end
end Go.Proofs.YtbmklgemmjgjfaaGreat
