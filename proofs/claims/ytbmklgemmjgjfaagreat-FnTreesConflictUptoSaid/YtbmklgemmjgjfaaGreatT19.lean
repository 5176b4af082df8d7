/- Part 19: Sch, Vpr, Tva, Rgs, Hdl, Rsv, Vva, Vmp. -/
import Derived.Test.YtbmklgemmjgjfaaGreatT16
import Derived.Test.YtbmklgemmjgjfaaGreatT18
namespace Go.Proofs.YtbmklgemmjgjfaaGreat
open List (cons_append map_nil nil_append)
open Go.RowKit Go.Maps Tryz
set_option linter.unusedVariables false
set_option linter.unusedSimpArgs false
set_option maxRecDepth 100000
set_option maxHeartbeats 4000000
variable{I J:Gh}{b N n vb sb nb al k:Nat}{R:List Rw}{L PB VB:List Blk}{w:World}{d:Bool}{Post:Value->Gh->List Blk->List Rw->Prop}{sp:OA}
section
def nmAt:BA:=⟨#[95,95,117,110,116,121,112,101,100,95,97,116,111,109,105,99,95]⟩
def nmDe:BA:=⟨#[95,95,117,110,116,121,112,101,100,95,100,101,100,117,99,101,100,95]⟩
def nmUn:BA:=⟨#[117,110,116,121,112,101,100]⟩
def Q1p:BA:=⟨#[97,116,111,109,105,99]⟩
def Q6r:BA:=⟨#[115,101,112,97,114,97,98,108,101]⟩
def nmTy(ded:Bool):BA:=if ded then nmDe else nmAt
def Q4k(nb:Nat):List Value:=[pt nb,pn,pn,pn,pn,.bool false]
def Q0v(nb:Nat):Value:=.agg #[pt nb,pn,pn,pn,pn,.bool false]
structure Q3a(J:Gh)(sp lp mp:Nat)(ded:Bool):Prop where
 s:J.cell (ad sp 0) (.string nmUn)
 l:∃nb,Nm J nb nmAt/\J lp=some (.cells (L1n nb Q1p).toArray 332 (0,0))
 m:∃nb,Nm J nb (nmTy ded)/\J mp=some (.cells #[sn,sn,pt nb,pn,pn,pn,pn,.bool false,.string (if ded then Q6r else Q1p)] 337 (0,0))
theorem Q3a.mono{s l m:Nat}{d:Bool}(h:Q3a I s l m d)(le:I.le J):Q3a J s l m d:=by
 obtain⟨h1,⟨a,h2,h3⟩,⟨b,h4,h5⟩⟩:=h;exact⟨h1.mono le,⟨a,h2.mono le,le _ _ h3⟩,⟨b,h4.mono le,le _ _ h5⟩⟩
def Q2c(J:Gh)(sb:Nat):Prop:=∃(tb c s1 l1 m1 s2 l2 m2:Nat),J.cell (ad sb 0) (.slice (some (ad tb 0)) 2 c)/\2<=c/\Q3a J s1 l1 m1 false/\Q3a J s2 l2 m2 true/\
 (∀(i:Nat) u,[Value.string nmAt,pt s1,pt l1,pt m1][i]?=some u->J.cell (ad tb (0+i)) u)/\
 (∀(i:Nat) u,[Value.string nmDe,pt s2,pt l2,pt m2][i]?=some u->J.cell (ad tb (4+i)) u)
theorem Q2c.mono{b:Nat}(h:Q2c I b)(le:I.le J):Q2c J b:=by
 obtain⟨tb,c,s1,l1,m1,s2,l2,m2,h1,h2,h3,h4,h5,h6⟩:=h;exact⟨tb,c,s1,l1,m1,s2,l2,m2,h1.mono le,h2,h3.mono le,h4.mono le,fun i u hu=>(h5 i u hu).mono le,fun i u hu=>(h6 i u hu).mono le⟩
theorem nm_ne2:(nmDe.toList==nmAt.toList)=false:=by have:=Q6p nmDe nmAt;unfold seq at this;rw[this];decide
theorem named_x(J:Gh)(sb:Nat)(ded:Bool)(hs:Q2c J sb)(w:World)(hi:J.In w):
  Calls prog 263 #[pt sb,.string (nmTy ded)] w fun e w'=>∃s l m,e=.returned (.tuple #[.agg #[.string (nmTy ded),pt s,pt l,pt m],.bool true])/\Q3a J s l m ded/\Step Nix J J w w':=by
 obtain⟨tb,c,s1,l1,m1,s2,l2,m2,hA,hc2,ha1,ha2,hT0,hT1⟩:=hs;have hN0:=hT0 0 _ rfl;have hN1:=hT1 0 _ rfl;have HA:=Hd (And.intro ha1 ha2);clear ha1 ha2;refine Q0c (M:=Nix) hi ?_;intro W S;obtain⟨nm,hnm⟩:∃nm,nm=nmTy ded:=⟨_,rfl⟩
 rw[<-hnm];have HNM:=Hd hnm;clear hnm;go_enter func263,ntmps263;go_wp2_with (first|refine wk ?_|refine X9l (sub:=(L2o nmAt s1 l1 m1)) rf rfl rfl rfl hT0 S.out.inw ?_|refine X9l (sub:=(L2o nmDe s2 l2 m2)) rf rfl rfl rfl hT1 S.out.inw ?_|refine Ws ?_;clear S;intro W S|refine wB ?_;clear S;intro y W S|refine wA ?_;clear S;(first|(fail_if_success revert z);intro z W S|intro _ W S))
 go_loopg [6] 1 (fun g s6 wr=>∃i:Nat,s6=.int .i64 (i:Nat)/\g=i/\(i=1\/(i=0/\ded=false))/\Hid (St Nix J J w wr [(z,[.string ⟨#[]⟩,pn,pn,pn],.t 239)] []))
 case atStart=>exact⟨1,rfl,rfl,.inl rfl,S⟩
 case round=>
  clear S;obtain⟨i,rfl,hg,hi1,S⟩:=hrel;rcases hi1 with rfl|⟨rfl,hd⟩
  ·cases ded with
   |true=>
    have hn:=HNM.out;simp only[nmTy,if_true]at hn;subst hn;go_wp2_with (first|refine wk ?_|refine X9l (sub:=(L2o nmAt s1 l1 m1)) rf rfl rfl rfl hT0 S.out.inw ?_|refine X9l (sub:=(L2o nmDe s2 l2 m2)) rf rfl rfl rfl hT1 S.out.inw ?_|refine Ws ?_;clear S;intro W S|refine wB ?_;clear S;intro y W S|refine wA ?_;clear S;(first|(fail_if_success revert z);intro z W S|intro _ W S))
    refine bT ?_;exact⟨_,_,_,rfl,HA.out.2,S.out.step⟩
   |false=>
    have hn:=HNM.out;simp only[nmTy,Bool.false_eq_true,if_false]at hn;subst hn;have hne:=nm_ne2;go_wp2_with (first|refine wk ?_|refine X9l (sub:=(L2o nmAt s1 l1 m1)) rf rfl rfl rfl hT0 S.out.inw ?_|refine X9l (sub:=(L2o nmDe s2 l2 m2)) rf rfl rfl rfl hT1 S.out.inw ?_|refine Ws ?_;clear S;intro W S|refine wB ?_;clear S;intro y W S|refine wA ?_;clear S;(first|(fail_if_success revert z);intro z W S|intro _ W S))
    go_roundg 0
    case measure=>omega
    case rel=>exact⟨0,rfl,rfl,.inr b0f,S⟩
  ·subst hd;have hn:=HNM.out;simp only[nmTy,Bool.false_eq_true,if_false]at hn;subst hn;go_wp2_with (first|refine wk ?_|refine X9l (sub:=(L2o nmAt s1 l1 m1)) rf rfl rfl rfl hT0 S.out.inw ?_|refine X9l (sub:=(L2o nmDe s2 l2 m2)) rf rfl rfl rfl hT1 S.out.inw ?_|refine Ws ?_;clear S;intro W S|refine wB ?_;clear S;intro y W S|refine wA ?_;clear S;(first|(fail_if_success revert z);intro z W S|intro _ W S))
   refine bT ?_;exact⟨_,_,_,rfl,HA.out.1,S.out.step⟩
def Q1j(s l m:Nat):Value:=.agg #[pt s,pt l,pt m]
theorem z1i{P:Prop}(h:P:=by
 go_wp2_with (first|refine wk ?_|refine Ws ?_;clear S;intro W S|refine wB ?_;clear S;intro y W S|refine wA ?_;clear S;intro _ W S)
 refine bT ?_;exact⟨_,_,_,rfl,ha,S.out.step⟩):P:=h
theorem noOver_x(J:Gh)(sb nb:Nat)(ded:Bool)(hs:Q2c J sb)(hn:Nm J nb (nmTy ded))(w:World)(hi:J.In w):
  Calls prog 222 #[pt sb,Q0v nb] w fun e w'=>∃s l m,e=.returned (.tuple #[Q1j s l m,.bool true])/\Q3a J s l m ded/\Step Nix J J w w':=by
 have hA:=hn.1;have HS:=Hd hs;clear hs;unfold Q0v;refine Q0c (M:=Nix) hi ?_;intro W S;go_enter func222,ntmps222;go_wp2_with (first|refine wk ?_|refine Ws ?_;clear S;intro W S|refine wB ?_;clear S;intro y W S|refine wA ?_;clear S;intro _ W S)
 refine(named_x J sb ded HS.out _ S.out.inw).mono ?_;rintro e W2 ⟨s,l,m,rfl,ha,st⟩;replace S:=Hd (S.out.call st);clear st;exact z1i
theorem Q5q(J:Gh)(sb nb:Nat)(ded:Bool)(hs:Q2c J sb)(hn:Nm J nb (nmTy ded))(w:World)(hi:J.In w):
  Calls prog 169 #[pt sb,Q0v nb] w fun e w'=>∃s l m,e=.returned (.tuple #[Q1j s l m,.bool true])/\Q3a J s l m ded/\Step Nix J J w w':=by
 have HS:=Hd hs;clear hs;unfold Q0v;refine Q0c (M:=Nix) hi ?_;intro W S;go_enter func169,ntmps169;go_wp2_with (first|refine wk ?_|refine Ws ?_;clear S;intro W S|refine wB ?_;clear S;intro y W S|refine wA ?_;clear S;intro _ W S)
 refine(noOver_x J sb nb ded HS.out hn _ S.out.inw).mono ?_;rintro e W2 ⟨s,l,m,rfl,ha,st⟩;replace S:=Hd (S.out.call st);clear st;unfold Q1j;exact z1i
theorem Q3k(J:Gh)(mp:Nat)(k:BA)(hA:J.cell (ad mp 0) (sn))(w:World)(hi:J.In w):
  Calls prog 235 #[pt mp,.string k] w (Got Nix J w (.tuple #[.agg L2p.toArray,.bool false])):=by
 refine Q0c (M:=Nix) hi ?_;intro W S;go_enter func235,ntmps235;go_wp2_with (first|refine wk ?_|refine Ws ?_;clear S;intro W S|refine wB ?_;clear S;intro y W S|refine wA ?_;clear S;(first|(fail_if_success revert z);intro z W S|intro _ W S))
 go_loopg [6] 0 (fun g s6 wr=>s6=.int .i64 (-1)/\Hid (St Nix J J w wr [(z,L2p,.t 427)] []))
 case atStart=>exact⟨rfl,S⟩
 case round=>
  clear S;obtain⟨rfl,S⟩:=hrel;go_wp2_with (first|refine wk ?_|refine Ws ?_;clear S;intro W S|refine wB ?_;clear S;intro y W S|refine wA ?_;clear S;(first|(fail_if_success revert z);intro z W S|intro _ W S))
  refine bT ?_;exact⟨rfl,S.out.step⟩
end
section
inductive Q3b:OA->OA->Prop
 |none {q:OA}:Q3b .none q
 |same {q:OA}:Q3b q q
theorem Q3b.trans{a b c:OA}(h:Q3b a b)(k:Q3b b c):Q3b a c:=by
 cases h with
 |none=>exact .none
 |same=>exact k
def wblk(TW:TypeId)(x:Nat×List Value):Blk:=(x.1,x.2,.t TW)
def wptr(x:Nat×List Value):Value:=.pointer (some (ad x.1 0))
inductive Pool(TW TS TE:TypeId)(nc:Nat):Nat->OA->List Blk->List Rw->Prop
 |nil:Pool TW TS TE nc 0 none [] []
 | some (P:Nat) (A:OA) (c:Nat) (ws:List (Nat×List Value)) (h:∀x∈ws,x.2.length=nc):
   Pool TW TS TE nc ws.length (some (ad P 0)) ((P,[.slice A ws.length c],.t TS)::ws.map (wblk TW)) [⟨.slice A ws.length c,TE,1,ws.length,ws.map wptr⟩]
variable{c nc g b2:Nat}{TW TS TE e T:TypeId}
theorem Pool.empty(P:Nat)(A:OA)(c:Nat):Pool TW TS TE nc 0 (Option.some (ad P 0)) [(P,[.slice A 0 c],.t TS)] [⟨.slice A 0 c,TE,1,0,[]⟩]:=.some P A c [] b0f
theorem Pool.of{m:Nat}(P:Nat)(A:OA)(c:Nat)(ws:List (Nat×List Value))(h:∀x∈ws,x.2.length=nc)(hN:N=ws.length)(hm:N=m):
  Pool TW TS TE nc m (Option.some (ad P 0)) ((P,[.slice A N c],.t TS)::ws.map (wblk TW)) [⟨.slice A N c,TE,1,N,ws.map wptr⟩]:=by
 subst hm hN;exact .some P A c ws h
variable{PR:List Rw}{W:World}{M:Nat->Prop}
theorem St.rshrink{wi:List (Nat×List Value)}{x:Nat×List Value}(S:St M I J w W L (⟨.slice (some ⟨g,0,Option.none⟩) (N+1) c,e,1,N+1,wi.map wptr++[wptr x]⟩::R))(hN:N=wi.length):St M I J w W L (⟨.slice (some ⟨g,0,Option.none⟩) N c,e,1,N,wi.map wptr⟩::R):=
 S.shrink (Nat.le_succ N) (by simp[hN])
theorem lastfront{α:Type}(o p q z:α)(ms:List α):(z::o::p::q::ms).Perm (o::p::q::(ms++[z])):=by
 refine Q2x fun f=>?_;exact e0r
variable{p q:Blk}
theorem St.lastfront{o:Blk}{cs:List Value}{ms:List Blk}(S:St M I J w W (o::p::q::(ms++[wblk T (b,cs)])) R):St M I J w W ((b,cs,.t T)::o::p::q::ms) R:=
 S.lperm (Go.Proofs.YtbmklgemmjgjfaaGreat.lastfront o p q _ ms)
theorem X7i{α:Type}(p x q:α)(ms:List α):(p::q::(ms++[x])).Perm (p::x::q::ms):=by
 refine Q2x fun f=>?_;exact e0r
variable{ws:List (Nat×List Value)}{c2:List Value}
theorem finfront{y:Blk}{v:Value}(S:Hid (St M I J w W (y::p::(b2,c2,.t T)::q::ws.map (wblk T)) [⟨v,e,1,n,ws.map wptr++[pt b2]⟩])):
  St M I J w W (p::q::(ws++[(b2,c2)]).map (wblk T)) [⟨v,e,1,n,(ws++[(b2,c2)]).map wptr⟩]:=by
 rw[List.map_append,List.map_append];exact St.lperm (St.dropL (L:=[y]) S.out) (X7i _ _ _ _)
theorem list11{{l:List Value}}(h:l.length=11):∃ca cb cc cd ce cf cg ch ci cj ck,l=[ca,cb,cc,cd,ce,cf,cg,ch,ci,cj,ck]:=by
 match l,h with
 |[ca,cb,cc,cd,ce,cf,cg,ch,ci,cj,ck],_=>exact⟨ca,cb,cc,cd,ce,cf,cg,ch,ci,cj,ck,rfl⟩
theorem row_lastv(hN:ws.length=N)(W:World)(h:Vw J L [⟨.slice (some (ad g 0)) (N+1) c,475,1,N+1,ws.map wptr++[wptr (b2,c2)]⟩] W):W.cell? (ad g N)=some (pt b2):=by
 exact e1b
theorem vprep_s{nb2:Nat}{sp:OA}(hp:Pool 479 696 475 11 n sp PB PR)(hn:n<2 ^ 30):
  Ac 482 #[pt b,Q0v nb2] J ((b,L0m vb sb nb d sp al,.t 479)::PB) PR fun u K L' R'=>K=J/\∃b2 P PB',u=pt b2/\Q3b sp (some (ad P 0))/\Pool 479 696 475 11 (n -1) (some (ad P 0)) PB' R'/\L'=(b,L1d vb sb nb d P al,.t 479)::(b2,L1d vb sb nb2 d P al,.t 479)::PB':=by
 unfold Q0v;intro M I w W S;cases hp with
 |nil=>
  go_enter func482,ntmps482;go_wp2_with (first|refine wk ?_|refine Ws ?_;clear S;intro W S|refine Q0q (t:=696) (e:=475) S (Q0b rf _) rf underlying696 kr 1 ?_;clear S;intro ys W S|refine wn ?_;clear S;(first|((fail_if_success (revert ys));(first|(fail_if_success revert y);intro y W S|intro y2 W S))|(fail_if_success revert P);intro P W S|intro y2 W S))
  go_ret;exact ap gR ⟨rfl,y2,P,_,rfl,.none,.empty P (some (ad ys 0)) 0,rfl⟩ (keep S)
 |some P A c ws h=>
  rcases List.eq_nil_or_concat ws with rfl|⟨wi,⟨b2,c2⟩,rfl⟩
  ·go_enter func482,ntmps482;simp only[List.length_nil,map_nil]at S;go_wp2_with (first|refine wk ?_|refine Ws ?_;clear S;intro W S|refine Q0q (t:=696) (e:=475) S (Q0b rf _) rf underlying696 kr 1 ?_;clear S;intro ys W S|refine wn ?_;clear S;(first|((fail_if_success (revert ys));(first|(fail_if_success revert y);intro y W S|intro y2 W S))|(fail_if_success revert P);intro P W S|intro y2 W S))
   go_ret;exact ap gR ⟨rfl,y2,P,_,rfl,.same,.empty P A c,rfl⟩ (keep S)
  ·obtain⟨N,hN⟩:∃N,N=wi.length:=⟨_,rfl⟩
   have HW:=Hd (And.intro hN h);simp only[List.concat_eq_append,List.length_append,List.length_cons,List.length_nil,Nat.zero_add,List.map_append,List.map_cons,map_nil,<-hN]at S;have hNb:N+1<2 ^ 30:=by simpa[hN]using hn
   have hw:IntKind.i64.wrap (N:Int)=N:=by rw[IntKind.wrap_i64];omega
   have hN1:((N:Int)<(N:Int)+1)=True:=eq_true om;clear hN h hn;obtain⟨g,hA,hNc⟩:∃g,A=some (ad g 0)/\N<=c:=by
    rcases(S.out.row .head).2 with⟨hh,_⟩|⟨g,cap,cur,hh,h0,hg,h1,_⟩
    ·cases hh
    ·injection hh with e1 e2 e3;exact⟨g,e1,by omega⟩
   subst hA;go_enter func482,ntmps482;go_wp2_with (first|refine wk ?_|refine Ws ?_;clear S;intro W S|refine Q0q (t:=696) (e:=475) S (Q0b rf _) rf underlying696 kr 1 ?_;clear S;intro ys W S|refine wn ?_;clear S;(first|((fail_if_success (revert ys));(first|(fail_if_success revert y);intro y W S|intro y2 W S))|(fail_if_success revert P);intro P W S|intro y2 W S))
   refine Rg S [(b,L1d vb sb nb d P al,.t 479),(P,[.slice (some (ad g 0)) (N+1) c],.t 696)] [⟨.slice (some (ad g 0)) (N+1) c,475,1,N+1,wi.map wptr++[wptr (b2,c2)]⟩] [25] [0,1,2,3,4,5,6,7,8,9,10,11,12,13,14,15,16,17,18,19,20,21,22,23,24] 1 fun W S=>?_;refine tk35 ?_;refine Cl 25 fun KK hKK=>?_;refine Q0j (v:=.slice (some (ad g 0)) N c) S rfl rfl rfl rfl ?_;clear S;intro W S;refine hKK.out _ _ (NoPanic.normal ?_);clear hKK KK;have hsz:=Hd (show N=(wi.concat (b2,c2)).length -1 by rw[HW.out.1];simp);obtain⟨ca,cb,cc,cd,ce,cf,cg,ch,ci,cj,ck,hc2⟩:=list11 (HW.out.2 (b2,c2) b0f);subst hc2;replace S:=Hd (S.out.rshrink HW.out.1).lastfront;have hh:∀x∈wi,x.2.length=11:=fun x hx=>HW.out.2 x (by simp[hx]);have HW:=Hd (And.intro HW.out.1 hh);clear hh hN1 hw hNb;replace S:=S.out;go_wp2_with (first|refine wk ?_|refine Ws ?_;clear S;intro W S|refine Q0q (t:=696) (e:=475) S (Q0b rf _) rf underlying696 kr 1 ?_;clear S;intro ys W S|refine wn ?_;clear S;(first|((fail_if_success (revert ys));(first|(fail_if_success revert y);intro y W S|intro y2 W S))|(fail_if_success revert P);intro P W S|intro y2 W S))
   go_ret;exact ap gR ⟨rfl,b2,P,_,rfl,.same,Pool.of P (some (ad g 0)) c wi HW.out.2 HW.out.1 hsz.out,rfl⟩ (keep S)
theorem in475:Inf prog 475 (pn) 1 8:=by unfold Inf;kernel_rfl
theorem vfin_s{P:Nat}(hp:Pool 479 696 475 11 n (some (ad P 0)) PB PR)(h2:c2.length=11)(hn:n<2 ^ 30):
  Ac 483 #[pt b,pt b2] J ((b,L1d vb sb nb d P al,.t 479)::(b2,c2,.t 479)::PB) PR fun u K L' R'=>K=J/\∃PB',Pool 479 696 475 11 (n+1) (some (ad P 0)) PB' R'/\L'=(b,L1d vb sb nb d P al,.t 479)::PB':=by
 intro M I w W S;rcases hp with _|⟨_,A,c,ws,h⟩;obtain⟨N,hN⟩:∃N,N=ws.length:=⟨_,rfl⟩
 rw[<-hN]at S hn;have HW:=Hd (And.intro hN h);clear hN h;go_enter func483,ntmps483;refine Rg S [(b,L1d vb sb nb d P al,.t 479),(P,[.slice A N c],.t 696)] [] [14] [0,1,2,3,4,5,6,7,8,9,10] 4 fun W S=>?_;refine Zw [] 3 11 ?_;intro KK hKK;refine Q1s S rfl underlying696 rfl ?_;clear S;intro y1 W S;refine Yw [13] 1 12 ?_;intro KK hKK;refine Q1m S rfl rfl rfl underlying696 in475 rfl om ?_;clear S;intro A1 c1 W S;refine Ht ?_;refine Cl 14 fun KK hKK=>?_;refine Q0j (v:=.slice A1 (N+1) c1) S rfl rfl rfl rfl ?_;clear S;intro W S;refine hKK.out _ _ (NoPanic.normal ?_);clear hKK KK;go_wp2_with fail
 refine bT ?_;exact ap gR ⟨rfl,_,Pool.of P A1 c1 (ws++[(b2,c2)]) (fun x hx=>(List.mem_append.1 hx).elim (HW.out.2 x) fun e=>by rw[List.mem_singleton.1 e];exact h2) (by simp[HW.out.1]) (by rw[HW.out.1]),rfl⟩ (finfront S)
end
section
variable{K:Gh}
theorem Q0g{P:Program}{f:FuncId}{args:Array Value}{r:Value}{o:Obj}(h:Calls P f args w fun e w'=>e=.returned r/\w.alloc o=w')(hi:J.In w):Calls P f args w (Got Nix J w r):=by
 refine h.mono ?_;rintro e w' ⟨rfl,rfl⟩;exact⟨rfl,(Step.refl hi).alloc _⟩
class SubB (L L2:List Blk):Prop where
 h:∀x∈L,x∈L2
instance {L:List Blk}:SubB L L:=⟨fun _ h=>h⟩
instance (priority:=low) {x:Blk} {L L2:List Blk} [i:SubB L L2]:SubB L (x::L2):=⟨fun y h=>List.mem_cons_of_mem _ (i.h y h)⟩
instance (priority:=low) {D L L2:List Blk} [i:SubB L L2]:SubB L (D++L2):=⟨fun y h=>List.mem_append_right _ (i.h y h)⟩
def Q2n(J:Gh)(L:List Blk)(vb:Nat)(a:Value):Prop:=J.cell (ad vb 0) a\/∃t,(vb,[a],Bt.t t)∈L
variable{a:Value}{L2:List Blk}
theorem Q2n.at{I:Gh}{M:Nat->Prop}{W:World}{R:List Rw}(h:Q2n J L vb a)(hle:J.le K)[i:SubB L L2](S:Hid (St M I K w W L2 R)):W.cell? (ad vb 0)=some a:=by
 rcases h with h|⟨t,h⟩
 ·exact(h.mono hle).at S.out.inw
 ·have hb:W.heap[vb]?=some (.cells [a].toArray t (0,0)):=(S.out.own _ (i.h _ h)).1;have:=Q0e hb 0;rw[this];rfl
theorem Q2n.mono(h:Q2n J L vb a)(l:J.le K):Q2n K L vb a:=h.imp_left fun h=>h.mono l
theorem Q2n.sub(h:Q2n J L vb a)(i:∀x∈L,x∈L2):Q2n J L2 vb a:=h.imp_right fun⟨t,h⟩=>⟨t,i _ h⟩
def Q3q(vb:Nat):Value:=.iface 339 (pt vb)
def alIf(al:Nat):Value:=.iface 340 (pt al)
def Q5v(k:Nat)(s l m:Nat):Value:=match k with
 |0=>Q1j s l m
 |5=>.agg #[pn,pt l,pn]
 |6=>.agg #[pn,pn,pt m]
 |_=>.agg #[pt s,pn,pn]
theorem Q5h{s l m:Nat}(hk:AK a k)(w:World)(hi:J.In w)(hv:w.cell? (ad vb 0)=some a):Calls prog 259 #[Q1j s l m,Q3q vb] w (Got Nix J w (Q5v k s l m)):=by
 unfold Q1j Q3q;have HV:=Hd hv;clear hv;refine Q0c (M:=Nix) hi ?_;intro W S;have hv:=S.out.step.cell HV.out (fun x=>x);cases hk;all_goals
  go_enter func259,ntmps259
  go_wp2_with (first|refine wk ?_|refine Ws ?_;clear S;intro W S;clear hv;have hv:=S.out.step.cell HV.out (fun x=>x)|refine wB ?_;clear S;intro y W S;clear hv;have hv:=S.out.step.cell HV.out (fun x=>x)|refine wA ?_;clear S;intro z W S;clear hv;have hv:=S.out.step.cell HV.out (fun x=>x)|go_at_call 385;refine(Q0g (Q6b b0s _) S.out.inw).mono ?_;rintro e W ⟨rfl,st⟩;replace S:=Hd (S.out.call st);clear st hv;have hv:=S.out.step.cell HV.out (fun x=>x)|go_at_call 380;refine(Q0g (Q8i b0s _) S.out.inw).mono ?_;rintro e W ⟨rfl,st⟩;replace S:=Hd (S.out.call st);clear st hv;have hv:=S.out.step.cell HV.out (fun x=>x)|go_at_call 382;refine(Q0g (Z0y b0s _) S.out.inw).mono ?_;rintro e W ⟨rfl,st⟩;replace S:=Hd (S.out.call st);clear st hv;have hv:=S.out.step.cell HV.out (fun x=>x)|go_at_call 381;refine(Q0g (Q6q b0s _) S.out.inw).mono ?_;rintro e W ⟨rfl,st⟩;replace S:=Hd (S.out.call st);clear st hv;have hv:=S.out.step.cell HV.out (fun x=>x)|go_at_call 386;refine(Q0g (Q5c b0s _) S.out.inw).mono ?_;rintro e W ⟨rfl,st⟩;replace S:=Hd (S.out.call st);clear st hv;have hv:=S.out.step.cell HV.out (fun x=>x)|go_at_call 383;refine(Q0g (Q8g b0s _) S.out.inw).mono ?_;rintro e W ⟨rfl,st⟩;replace S:=Hd (S.out.call st);clear st hv;have hv:=S.out.step.cell HV.out (fun x=>x)|go_at_call 384;refine(Q0g (Q8k b0s _) S.out.inw).mono ?_;rintro e W ⟨rfl,st⟩;replace S:=Hd (S.out.call st);clear st hv;have hv:=S.out.step.cell HV.out (fun x=>x))
  refine bT ?_
  exact⟨rfl,S.out.step⟩
theorem Q9y{r:Nat}(w:World)(hi:J.In w)(hv:w.cell? (ad vb 0)=some (.iface 283 (.map (some r)))):Calls prog 398 #[alIf al,Q3q vb] w (Got Nix J w (.tuple #[.iface 633 (.map (some r)),.nilIface])):=by
 unfold alIf Q3q;have HV:=Hd hv;have hk:=AK.map (some r);clear hv;refine Q0c (M:=Nix) hi ?_;intro W S;have hv:=S.out.step.cell HV.out (fun x=>x);go_enter func398,ntmps398;go_wp2_with (first|go_at_call 385;refine(Q0g (Q6b hk _) S.out.inw).mono ?_;rintro e W ⟨rfl,st⟩;replace S:=Hd (S.out.call st);clear st hv;have hv:=S.out.step.cell HV.out (fun x=>x)|go_at_call 380;refine(Q0g (Q8i hk _) S.out.inw).mono ?_;rintro e W ⟨rfl,st⟩;replace S:=Hd (S.out.call st);clear st hv;have hv:=S.out.step.cell HV.out (fun x=>x)|go_at_call 382;refine(Q0g (Z0y hk _) S.out.inw).mono ?_;rintro e W ⟨rfl,st⟩;replace S:=Hd (S.out.call st);clear st hv;have hv:=S.out.step.cell HV.out (fun x=>x)|go_at_call 381;refine(Q0g (Q6q hk _) S.out.inw).mono ?_;rintro e W ⟨rfl,st⟩;replace S:=Hd (S.out.call st);clear st hv;have hv:=S.out.step.cell HV.out (fun x=>x)|go_at_call 386;refine(Q0g (Q5c hk _) S.out.inw).mono ?_;rintro e W ⟨rfl,st⟩;replace S:=Hd (S.out.call st);clear st hv;have hv:=S.out.step.cell HV.out (fun x=>x)|go_at_call 383;refine(Q0g (Q8g hk _) S.out.inw).mono ?_;rintro e W ⟨rfl,st⟩;replace S:=Hd (S.out.call st);clear st hv;have hv:=S.out.step.cell HV.out (fun x=>x)|go_at_call 384;refine(Q0g (Q8k hk _) S.out.inw).mono ?_;rintro e W ⟨rfl,st⟩;replace S:=Hd (S.out.call st);clear st hv;have hv:=S.out.step.cell HV.out (fun x=>x)|go_at_call 378;refine(Q0g (Q9g _ _ _) S.out.inw).mono ?_;rintro e W ⟨rfl,st⟩;replace S:=Hd (S.out.call st);clear st)
 refine bT ?_;exact⟨rfl,S.out.step⟩
theorem Q8m{A:OA}{n c:Nat}(w:World)(hi:J.In w)(hv:w.cell? (ad vb 0)=some (.iface 282 (.slice A n c))):Calls prog 396 #[alIf al,Q3q vb] w (Got Nix J w (.tuple #[.iface 632 (.slice A n c),.nilIface])):=by
 unfold alIf Q3q;have HV:=Hd hv;have hk:=AK.list A n c;clear hv;refine Q0c (M:=Nix) hi ?_;intro W S;have hv:=S.out.step.cell HV.out (fun x=>x);go_enter func396,ntmps396;go_wp2_with (first|go_at_call 385;refine(Q0g (Q6b hk _) S.out.inw).mono ?_;rintro e W ⟨rfl,st⟩;replace S:=Hd (S.out.call st);clear st hv;have hv:=S.out.step.cell HV.out (fun x=>x)|go_at_call 380;refine(Q0g (Q8i hk _) S.out.inw).mono ?_;rintro e W ⟨rfl,st⟩;replace S:=Hd (S.out.call st);clear st hv;have hv:=S.out.step.cell HV.out (fun x=>x)|go_at_call 382;refine(Q0g (Z0y hk _) S.out.inw).mono ?_;rintro e W ⟨rfl,st⟩;replace S:=Hd (S.out.call st);clear st hv;have hv:=S.out.step.cell HV.out (fun x=>x)|go_at_call 381;refine(Q0g (Q6q hk _) S.out.inw).mono ?_;rintro e W ⟨rfl,st⟩;replace S:=Hd (S.out.call st);clear st hv;have hv:=S.out.step.cell HV.out (fun x=>x)|go_at_call 386;refine(Q0g (Q5c hk _) S.out.inw).mono ?_;rintro e W ⟨rfl,st⟩;replace S:=Hd (S.out.call st);clear st hv;have hv:=S.out.step.cell HV.out (fun x=>x)|go_at_call 383;refine(Q0g (Q8g hk _) S.out.inw).mono ?_;rintro e W ⟨rfl,st⟩;replace S:=Hd (S.out.call st);clear st hv;have hv:=S.out.step.cell HV.out (fun x=>x)|go_at_call 384;refine(Q0g (Q8k hk _) S.out.inw).mono ?_;rintro e W ⟨rfl,st⟩;replace S:=Hd (S.out.call st);clear st hv;have hv:=S.out.step.cell HV.out (fun x=>x)|go_at_call 376;refine(Q0g (Z1l _ _ _ _ _) S.out.inw).mono ?_;rintro e W ⟨rfl,st⟩;replace S:=Hd (S.out.call st);clear st)
 refine bT ?_;exact⟨rfl,S.out.step⟩
theorem X0q(w:World)(hi:J.In w)(hv:w.cell? (ad vb 0)=some .nilIface):Calls prog 398 #[alIf al,Q3q vb] w (Got Nix J w (.tuple #[.nilIface,.nilIface])):=by
 unfold alIf Q3q;have HV:=Hd hv;have hk:=AK.null;clear hv;refine Q0c (M:=Nix) hi ?_;intro W S;have hv:=S.out.step.cell HV.out (fun x=>x);go_enter func398,ntmps398;go_wp2_with (first|go_at_call 385;refine(Q0g (Q6b hk _) S.out.inw).mono ?_;rintro e W ⟨rfl,st⟩;replace S:=Hd (S.out.call st);clear st hv;have hv:=S.out.step.cell HV.out (fun x=>x)|go_at_call 380;refine(Q0g (Q8i hk _) S.out.inw).mono ?_;rintro e W ⟨rfl,st⟩;replace S:=Hd (S.out.call st);clear st hv;have hv:=S.out.step.cell HV.out (fun x=>x)|go_at_call 382;refine(Q0g (Z0y hk _) S.out.inw).mono ?_;rintro e W ⟨rfl,st⟩;replace S:=Hd (S.out.call st);clear st hv;have hv:=S.out.step.cell HV.out (fun x=>x)|go_at_call 381;refine(Q0g (Q6q hk _) S.out.inw).mono ?_;rintro e W ⟨rfl,st⟩;replace S:=Hd (S.out.call st);clear st hv;have hv:=S.out.step.cell HV.out (fun x=>x)|go_at_call 386;refine(Q0g (Q5c hk _) S.out.inw).mono ?_;rintro e W ⟨rfl,st⟩;replace S:=Hd (S.out.call st);clear st hv;have hv:=S.out.step.cell HV.out (fun x=>x)|go_at_call 383;refine(Q0g (Q8g hk _) S.out.inw).mono ?_;rintro e W ⟨rfl,st⟩;replace S:=Hd (S.out.call st);clear st hv;have hv:=S.out.step.cell HV.out (fun x=>x)|go_at_call 384;refine(Q0g (Q8k hk _) S.out.inw).mono ?_;rintro e W ⟨rfl,st⟩;replace S:=Hd (S.out.call st);clear st hv;have hv:=S.out.step.cell HV.out (fun x=>x))
 refine bT ?_;exact⟨rfl,S.out.step⟩
theorem Q7m(J:Gh)(A:OA)(c:Nat)(f:Value)(w:World)(hi:J.In w):Calls prog 260 #[.slice A 0 c,f] w (Got Nix J w (.slice A 0 c)):=by
 refine Q0c (M:=Nix) hi ?_;intro W S;go_enter func260,ntmps260;go_wp2_with fail
 go_ret;exact⟨rfl,S.out.step⟩
theorem X9h{sp:Nat}(hk:AK a k)(hk2:k≠5/\k≠6)(p:BA)(hA:J.cell (ad sp 0) (.string nmUn))(w:World)(hi:J.In w)(hv:w.cell? (ad vb 0)=some a):Calls prog 434 #[pt sp,Q3q vb,.string p] w (Got Nix J w (sn)):=by
 unfold Q3q;have HV:=Hd hv;clear hv;refine Q0c (M:=Nix) hi ?_;intro W S;have hv:=S.out.step.cell HV.out (fun x=>x);unfold nmUn at hA;cases hk
 case list=>exact absurd rfl hk2.1
 case map=>exact absurd rfl hk2.2
 all_goals
  clear hk2
  go_enter func434,ntmps434
  go_wp2_with (first|refine wk ?_|go_at_call 385;refine(Q0g (Q6b b0s _) S.out.inw).mono ?_;rintro e W ⟨rfl,st⟩;replace S:=Hd (S.out.call st);clear st hv;have hv:=S.out.step.cell HV.out (fun x=>x)|go_at_call 380;refine(Q0g (Q8i b0s _) S.out.inw).mono ?_;rintro e W ⟨rfl,st⟩;replace S:=Hd (S.out.call st);clear st hv;have hv:=S.out.step.cell HV.out (fun x=>x)|go_at_call 382;refine(Q0g (Z0y b0s _) S.out.inw).mono ?_;rintro e W ⟨rfl,st⟩;replace S:=Hd (S.out.call st);clear st hv;have hv:=S.out.step.cell HV.out (fun x=>x)|go_at_call 381;refine(Q0g (Q6q b0s _) S.out.inw).mono ?_;rintro e W ⟨rfl,st⟩;replace S:=Hd (S.out.call st);clear st hv;have hv:=S.out.step.cell HV.out (fun x=>x)|go_at_call 386;refine(Q0g (Q5c b0s _) S.out.inw).mono ?_;rintro e W ⟨rfl,st⟩;replace S:=Hd (S.out.call st);clear st hv;have hv:=S.out.step.cell HV.out (fun x=>x)|go_at_call 383;refine(Q0g (Q8g b0s _) S.out.inw).mono ?_;rintro e W ⟨rfl,st⟩;replace S:=Hd (S.out.call st);clear st hv;have hv:=S.out.step.cell HV.out (fun x=>x)|go_at_call 384;refine(Q0g (Q8k b0s _) S.out.inw).mono ?_;rintro e W ⟨rfl,st⟩;replace S:=Hd (S.out.call st);clear st hv;have hv:=S.out.step.cell HV.out (fun x=>x))
  go_ret
  exact⟨rfl,S.out.step⟩
end
section
section
variable{P:Program}{md:Region.Mode}{ops:Array Oper}{Q:EAW}{S:World->Prop}{Z:List Nat}{o:Oper}{a:Act}
theorem Z0u{listed:Array Bool}{i:Nat}(h:Q7t Z (listed.setIfInBounds i true)=true):Q7t Z listed=true:=by
 unfold Q7t at*;rw[List.all_eq_true]at*;intro z hz;have h1:=h z hz;by_cases hi:i=z
 ·subst hi;by_cases hl:i<listed.size
  ·simp[hl]at h1
  ·simp[hl]at h1
 ·rwa [getD_set_ne true hi]at h1
theorem X6e{i:Nat}{oi:Oper}{v:Value}(hi:ops[i]?=some oi)(hsel:∀(j:Nat) (o:Oper) cs b,ops[j]?=some o->o.op≠.select cs b)
  (hQ:∀c a w,Q (.panic c) (a.put oi.dst v) w->Q (.panic c) a w)(hiZ:i ∉ Z):
  ∀(fuel:Nat) (listed:Array Bool) (a:Act) (w:World),
   (∀j oj,ops[j]?=some oj->j≠i->listed.getD j true=false->(∀e∈oj.after,Region.binds md e=true->e.on≠i)->oi.apart ops oj=true)->
   i∈Region.ready md ops listed->YieldsIf P ops (fun _=>True) oi v a->(Q7t Z listed=true->S w)->
   Q0w P md ops Q S Z fuel (listed.setIfInBounds i true) (a.put oi.dst v) w->Q0w P md ops Q S Z (fuel+1) listed a w:=by
 intro fuel;induction fuel with
 |zero=>
  intro listed a w _ hr hy hS H;refine⟨fun h=>(by rw[h]at hr;cases hr),fun j hj=>?_⟩;by_cases hji:j=i
  ·subst hji;exact hy.wpOp hi trivial ⟨fun hu=>hS (Z0u hu),H⟩
  ·have:=ready_mono hj hji;rw[H.1]at this;cases this
 |succ fuel ih=>
  intro listed a w hfree hr hy hS H;refine⟨fun h=>(by rw[h]at hr;cases hr),fun j hj=>?_⟩;by_cases hji:j=i
  ·subst hji;exact hy.wpOp hi trivial ⟨fun hu=>hS (Z0u hu),H⟩
  ·obtain⟨hjun,oj,hoj,hall⟩:=mem_ready.1 hj;have hnot:∀e∈oj.after,Region.binds md e=true->e.on≠i:=fun e he hb heq=>by
    have h1:=hall e he hb;have h0:=(mem_ready.1 hr).1;rw[heq]at h1;rcases Nat.lt_or_ge i listed.size with h'|h'
    ·simp[h']at h0 h1;rw[h0]at h1;cases h1
    ·simp[Array.getElem?_eq_none h']at h1
   have h2:=wpOp_putIf hoj (hfree j oj hoj hji hjun hnot) (fun cs b=>hsel i oi cs b hi) (fun cs b=>hsel j oj cs b hoj) hQ hy (H.2 j (ready_mono hj hji));have hfree':∀k ok,ops[k]?=some ok->k≠i->(listed.setIfInBounds j true).getD k true=false->
     (∀e∈ok.after,Region.binds md e=true->e.on≠i)->oi.apart ops ok=true:=fun k ok hk hki hun hno=>by
    refine hfree k ok hk hki ?_ hno;by_cases hjk:j=k
    ·subst hjk;exact hjun
    ·rw[getD_set_ne true hjk]at hun;exact hun
   have hcm:(listed.setIfInBounds i true).setIfInBounds j true=(listed.setIfInBounds j true).setIfInBounds i true:=(Array.setIfInBounds_comm _ _ hji).symm;have hop:∀{w':World},(Q7t Z ((listed.setIfInBounds i true).setIfInBounds j true)=true->S w')->Q7t Z (listed.setIfInBounds j true)=true->S w':=fun h hu=>h (by rw[hcm];exact Z1m hu hiZ);refine wpOp_mono (fun a' w' h3=>⟨fun hu=>hop h3.2.1 hu,ih (listed.setIfInBounds j true) a' w' hfree' (ready_mono hr (Ne.symm hji)) h3.1 (fun hu=>hop h3.2.1 hu) ?_⟩) h2;rw[<-hcm];exact h3.2.2
def chkF(md:Region.Mode)(ops:Array Oper)(Z:List Nat):List Nat->Array Bool->Bool
 |[],_=>true
 |i::is,listed=>Region.free md ops listed i&&((Region.ready md ops listed).contains i&&(!(Z.contains i)&&chkF md ops Z is (listed.setIfInBounds i true)))
theorem frees(hQ:∀c a d v w,Q (.panic c) (Act.put a d v) w->Q (.panic c) a w)(hs:Region.noSelect ops=true)(fuel:Nat):∀(is:List Nat) {listed:Array Bool} {a:Act} {W:World},chkF md ops Z is listed=true->(Q7t Z listed=true->S W)->
  YS P ops (fun _=>True) is a (fun a'=>Q0w P md ops Q S Z fuel (Q5k is listed) a' W)->Q0w P md ops Q S Z (fuel+is.length) listed a W
 |[],_,_,_,_,_,h=>h
 |i::is,listed,a,W,hc,hS,h=>by
  obtain⟨o,v,ho,hy,hk⟩:=h;unfold chkF at hc;simp only[Bool.and_eq_true]at hc;exact X6e ho (Region.noSelect_spec hs) (fun c a w=>hQ c a _ _ w) (by simpa using hc.2.2.1) _ listed a W (Region.free_spec ho hc.1) (by simpa using hc.2.1) hy hS (frees hQ hs fuel is hc.2.2.2 (fun hu=>hS (Z0u hu)) hk)
theorem Z4d(is:List Nat)(f2:Nat){fuel:Nat}{listed:Array Bool}{W:World}(hs:Region.noSelect ops=true)(hf:fuel=f2+is.length)(hc:chkF md ops Z is listed=true)(hS:S W)
  (h:YS P ops (fun _=>True) is a (fun a'=>Q0w P md ops (NoPanic Q) S Z f2 (Q5k is listed) a' W)):Q0w P md ops (NoPanic Q) S Z fuel listed a W:=by
 subst hf;exact frees (fun _ _ _ _ _ h=>h) hs f2 is hc (fun _=>hS) h
theorem shuts(is:List Nat)(f2:Nat){i:Nat}{fuel:Nat}{listed:Array Bool}{W:World}(hr:Region.ready md ops listed=[i])[ho:OpA ops i o](hg:o.guard=none)(hz:Q7t Z (listed.setIfInBounds i true)=false)(hs:Region.noSelect ops=true)(hf:fuel=f2+is.length)(hc:chkF md ops Z is (listed.setIfInBounds i true)=true)
  (h:∀K:AW,Shut (∀a W,YS P ops (fun _=>True) is a (fun a'=>Q0w P md ops (NoPanic Q) S Z f2 (Q5k is (listed.setIfInBounds i true)) a' W)->K a W)->Oper.wp P o a W K (NoPanic Q)):Q0w P md ops (NoPanic Q) S Z (fuel+1) listed a W:=by
 refine Q5n hr b0f (Q1o.shut ho.h hz (fun K hK=>?_) Q1o.nil);rw[if_pos (Q0b hg _)];subst hf;exact h K fun a W hY=>hK a W (frees (fun _ _ _ _ _ h=>h) hs f2 is hc (fun hu=>by rw[hz]at hu;cases hu) hY)
end
theorem Sh{P:Program}{md:Region.Mode}{ops:Array Oper}{Q:EAW}{S:World->Prop}{Z:List Nat}{W:World}{o:Oper}{a:Act}(is:List Nat)(f2 i:Nat){fuel:Nat}{listed:Array Bool}[ho:OpA ops i o]
  (h:∀K:AW,Shut (∀a W,YS P ops (fun _=>True) is a (fun a'=>Q0w P md ops (NoPanic Q) S Z f2 (Q5k is (listed.setIfInBounds i true)) a' W)->K a W)->Oper.wp P o a W K (NoPanic Q))
  (hr:Region.ready md ops listed=[i]:=by kernel_rfl)(hg:o.guard=none:=by rfl)(hz:Q7t Z (listed.setIfInBounds i true)=false:=by kernel_rfl)(hs:Region.noSelect ops=true:=by kernel_rfl)(hf:fuel=f2+is.length:=by rfl)(hc:chkF md ops Z is (listed.setIfInBounds i true)=true:=by kernel_rfl):Q0w P md ops (NoPanic Q) S Z (fuel+1) listed a W:=shuts is f2 hr hg hz hs hf hc h
end
section
instance (priority:=low) pickAll {α:Type} {C L L':List α} [i:Sc L C L']:Pick L C L':=⟨i.h⟩
def Q1y(k fs fl fm:Nat):Nat:=match k with
 |0=>fm
 |5=>fl
 |6=>fm
 |_=>fs
variable{a:Value}{s l m:Nat}
theorem z0t{P:Prop}(h:P:=by
 unfold Q0v;intro M I w W S;have HA:=Hd h;clear h;cases hk;all_goals
  simp only[Q1y,Q5v,Q1j]at HA⊢
  go_enter func257,ntmps257
  go_wp2_with (first|refine wk ?_|refine Ws ?_;clear S;intro W S|refine wn ?_;clear S;intro _ W S)
  refine Q0a S HA.out ?_
  rintro r K L' R' W' hle hp S2
  have hp:=Hd hp
  clear S
  have S:=S2
  clear S2
  go_wp2_with fail
  go_ret
  exact ap hle hp.out (keep S)):P:=h
theorem X5i(hk:AK a k)
  (h:Ac (Q1y k 479 477 478) #[pt b,.pointer (some (ad (Q1y k s l m) 0))] J L R Post):
  Ac 257 #[Q5v k s l m,Q0v nb,.iface 475 (pt b)] J L R Post:=by
 exact z0t
theorem X5u(hk:AK a k)
  (h:Ac (Q1y k 395 393 394) #[pt b,.pointer (some (ad (Q1y k s l m) 0))] J L R Post):
  Ac 257 #[Q5v k s l m,Q0v nb,.iface 370 (pt b)] J L R Post:=by
 exact z0t
theorem Z1c(hk:AK a k)
  (h:Ac (Q1y k 429 427 428) #[pt b,.pointer (some (ad (Q1y k s l m) 0))] J L R Post):
  Ac 257 #[Q5v k s l m,Q0v nb,.iface 415 (pt b)] J L R Post:=by
 exact z0t
theorem Z1g(hk:AK a k)
  (h:Ac (Q1y k 461 459 460) #[pt b,.pointer (some (ad (Q1y k s l m) 0))] J L R Post):
  Ac 257 #[Q5v k s l m,Q0v nb,.iface 456 (pt b)] J L R Post:=by
 exact z0t
end
section
variable{a:Value}
theorem Q6u(hk:AK a k)(s l m:Nat):∃p q r:OA,Q5v k s l m=.agg (L0o p q r).toArray:=by
 cases hk<;>exact⟨_,_,_,rfl⟩
variable{ded:Bool}
theorem z1g{P:Prop}(h:P:=by
 rw[HD.out.1]at hc;refine Q0a S hc ?_;clear hc;rintro r K L' R' W' hle hp S2;have hp:=Hd hp;clear S;have S:=S2;clear S2;go_wp2_with fail
 go_ret;exact ap hle hp.out (keep S)):P:=h
theorem X3c(hk:AK a k)(hs:Q2c J sb)(hn:Nm J nb (nmTy ded))(hv:Q2n J L vb a)
  (h:∀s l m,Q3a J s l m ded->Ac (Q1y k 479 477 478) #[pt b,.pointer (some (ad (Q1y k s l m) 0))] J L R Post):
  Ac 233 #[pt sb,Q0v nb,Q3q vb,.iface 475 (pt b)] J L R Post:=by
 intro M I w W S;have HA:=Hd (nd5 hk hs hn hv h);clear hk hs hn hv h;unfold Q0v Q3q;go_enter func233,ntmps233;go_wp2_with (first|refine wk ?_|refine Ws ?_;clear S;intro W S|refine wA ?_;clear S;intro z W S|refine wB ?_;clear S;intro _ W S)
 refine(Q5q J sb nb ded HA.out.2.1 HA.out.2.2.1 _ S.out.inw).mono ?_;rintro e W2 ⟨s,l,m,rfl,ha,st⟩;replace S:=Hd (S.out.call st);clear st;unfold Q1j;go_wp2_with (first|refine wk ?_|refine Ws ?_;clear S;intro W S|refine wA ?_;clear S;intro z W S|refine wB ?_;clear S;intro _ W S)
 refine(Q5h HA.out.1 _ S.out.inw (HA.out.2.2.2.1.at gR S)).mono ?_;rintro e W3 ⟨rfl,st⟩;replace S:=Hd (S.out.call st);clear st;obtain⟨p,q,r,hd⟩:=Q6u HA.out.1 s l m;rw[hd];have HD:=Hd (And.intro hd ha);clear hd ha;go_wp2_with (first|refine wk ?_|refine Ws ?_;clear S;intro W S|refine wA ?_;clear S;intro z W S|refine wB ?_;clear S;intro _ W S)
 have hc:=X5i (nb:=nb) HA.out.1 (HA.out.2.2.2.2 s l m HD.out.2);exact z1g
theorem X1f(hk:AK a k)(hs:Q2c J sb)(hn:Nm J nb (nmTy ded))(hv:Q2n J L vb a)
  (h:∀s l m,Q3a J s l m ded->Ac (Q1y k 395 393 394) #[pt b,.pointer (some (ad (Q1y k s l m) 0))] J L R Post):
  Ac 233 #[pt sb,Q0v nb,Q3q vb,.iface 370 (pt b)] J L R Post:=by
 intro M I w W S;have HA:=Hd (nd5 hk hs hn hv h);clear hk hs hn hv h;unfold Q0v Q3q;go_enter func233,ntmps233;go_wp2_with (first|refine wk ?_|refine Ws ?_;clear S;intro W S|refine wA ?_;clear S;intro z W S|refine wB ?_;clear S;intro _ W S)
 refine(Q5q J sb nb ded HA.out.2.1 HA.out.2.2.1 _ S.out.inw).mono ?_;rintro e W2 ⟨s,l,m,rfl,ha,st⟩;replace S:=Hd (S.out.call st);clear st;unfold Q1j;go_wp2_with (first|refine wk ?_|refine Ws ?_;clear S;intro W S|refine wA ?_;clear S;intro z W S|refine wB ?_;clear S;intro _ W S)
 refine(Q5h HA.out.1 _ S.out.inw (HA.out.2.2.2.1.at gR S)).mono ?_;rintro e W3 ⟨rfl,st⟩;replace S:=Hd (S.out.call st);clear st;obtain⟨p,q,r,hd⟩:=Q6u HA.out.1 s l m;rw[hd];have HD:=Hd (And.intro hd ha);clear hd ha;go_wp2_with (first|refine wk ?_|refine Ws ?_;clear S;intro W S|refine wA ?_;clear S;intro z W S|refine wB ?_;clear S;intro _ W S)
 have hc:=X5u (nb:=nb) HA.out.1 (HA.out.2.2.2.2 s l m HD.out.2);exact z1g
end
section
def vc(vb sb nb al:Nat)(d:Bool)(sp:OA):List Value:=[.iface 339 (pt vb),pt sb,pt nb,pn,pn,pn,pn,.bool false,.bool d,.pointer sp,.iface 340 (pt al)]
def X2m(J:Gh)(b vb sb nb al:Nat)(d:Bool)(N:Nat)(sp:OA)(VB:List Blk)(u:Value)(K:Gh)(L':List Blk)(R':List Rw):Prop:=
 K=J/\u=sn/\∃n' sp' PB',n'<=N/\Q3b sp sp'/\Pool 479 696 475 11 n' sp' PB' R'/\L'=(b,vc vb sb nb al d sp',.t 479)::(PB'++VB)
variable{a:Value}
theorem validate_s{ded:Bool}{f:Value}{L:List Blk}(hk:AK a k)(hs:Q2c J sb)(hn:Nm J nb (nmTy ded))(hv:Q2n J ((b,vc vb sb nb al d sp,.t 479)::L) vb a)
  (h:∀s l m,Q3a J s l m ded->Ac (Q1y k 479 477 478) #[pt b,.pointer (some (ad (Q1y k s l m) 0))] J ((b,vc vb sb nb al d sp,.t 479)::L) R (X2m J b vb sb nb al d N sp VB)):
  Ac 248 #[pt b,f] J ((b,vc vb sb nb al d sp,.t 479)::L) R (X2m J b vb sb nb al d N sp VB):=by
 intro M I w W S;have HA:=Hd (nd5 hk hs hn hv h);clear hk hs hn hv h;simp only[vc]at S HA;go_enter func248,ntmps248;go_wp2_with fail
 refine Rg S [(b,L0m vb sb nb d sp al,.t 479)] [] [14] [0,1,2,3,4,5,6,7,8,9,10,11,12,13] 4 fun W S=>?_;refine tk1 ?_;refine Z4d [15] 3 kr rfl kr (vw S gR) ?_;refine tkf ?_;refine Sh [] 2 14 fun KK hKK=>?_;go_simp;refine Q0a S (X3c HA.out.1 HA.out.2.1 HA.out.2.2.1 HA.out.2.2.2.1 HA.out.2.2.2.2) ?_;rintro r K L' R' W' hle ⟨rfl,rfl,n',sp',PB',hn',hsp',hp',rfl⟩ S2;have HP:=Hd (nd3 hn' hsp' hp');clear S hn' hp' hsp';have S:=S2;clear S2;replace S:=sa S;refine hKK.out _ _ ?_;clear hKK KK;refine yf ?_;refine Sh [17] 0 16 fun KK hKK=>?_;go_simp;refine got S (Q7m _ none 0 _) ?_;clear S;intro W S;refine hKK.out _ _ ?_;clear hKK KK;refine tkf ?_;refine En ?_;go_wp2_with fail
 go_ret;exact ap gR ⟨rfl,rfl,n',sp',PB',HP.out.1,HP.out.2.1,HP.out.2.2,rfl⟩ S.out
theorem vscalar_s{sc n:Nat}{PB:List Blk}(hk:AK a k)(hk2:k≠5/\k≠6)(hA:J.cell (ad sc 0) (.string nmUn))(hv:Q2n J ((b,vc vb sb nb al d sp,.t 479)::(PB++VB)) vb a)(hp:Pool 479 696 475 11 n sp PB R)(hN:n<=N):
  Ac 479 #[pt b,pt sc] J ((b,vc vb sb nb al d sp,.t 479)::(PB++VB)) R (X2m J b vb sb nb al d N sp VB):=by
 intro M I w W S;have HA:=Hd (nd6 hk hk2 hA hv hp hN);clear hk hk2 hA hv hp hN;simp only[vc]at S HA;go_enter func479,ntmps479;go_wp2_with (first|refine wk ?_|refine Ws ?_;clear S;intro W S|refine wn ?_;clear S;intro _ W S)
 refine(X9h HA.out.1 HA.out.2.1 _ HA.out.2.2.1 _ S.out.inw (HA.out.2.2.2.1.at gR S)).mono ?_;rintro e W ⟨rfl,st⟩;replace S:=Hd (S.out.call st);clear st;go_wp2_with (first|refine wk ?_|refine Ws ?_;clear S;intro W S|refine wn ?_;clear S;intro _ W S)
 go_ret;exact ap gR ⟨rfl,rfl,n,sp,PB,HA.out.2.2.2.2.2,.same,HA.out.2.2.2.2.1,rfl⟩ S.out
end
section
theorem Has.app{b:Nat}{cs:List Value}{t:TypeId}{L:List Blk}(h:Has L b cs t):∀C:List Blk,Has (C++L) b cs t
 |[]=>h
 |_::C=>.tail (Has.app h C)
theorem Upd.app{b:Nat}{cs new:List Value}{t:TypeId}{L L':List Blk}(h:Upd L b cs t new L'):∀C:List Blk,Upd (C++L) b cs t new (C++L')
 |[]=>h
 |_::C=>.tail (Upd.app h C)
instance (priority:=low) {b:Nat} {cs:List Value} {t:TypeId} {C L:List Blk} [i:Hs L b cs t]:Hs (C++L) b cs t:=⟨i.h.app C⟩
instance (priority:=low) {b:Nat} {cs new:List Value} {t:TypeId} {C L L':List Blk} [i:Up L b new cs t L']:Up (C++L) b new cs t (C++L'):=⟨i.h.app C⟩
theorem Q4b{P:Program}{o:Oper}{a:Act}{W:World}{K:AW}{Q:EAW}{s x:Operand}{t e:TypeId}{z:Value}{size bytes:Nat}(ho:o.op=.call {callee:=.builtin .append,args:=#[s,x],argTypes:=#[t,t]})(hs:a.eval s=sn)(hx:a.eval x=sn)
  (ht:P.underlying t=some (.slice e))(hi:Inf P e z size bytes)(hk:K (a.put o.dst (sn)) W):o.wp P a W K Q:=by
 obtain⟨i,g1,g2,g3,g4⟩:=hi.parts;have hrun:=Q7w (P:=P) W 0 t o.type e i size ht g1 (sn) 0 [] ⟨by simp,.inl ⟨rfl,rfl⟩⟩ 0;unfold Oper.wp execOp;simp only[ho,resolve,invoke,builtin,Sem.run_bind,Sem.run_pure,Result.andThen_ok,List.map_toArray,List.map_cons,map_nil,hs,hx,hrun];exact hk
@[go_sem] theorem eqp106(a:Addr)(w:World):(Op.equalIn 9999 106 (.pointer (some a)) (pn)).run prog w=.ok false w:=by kernel_rfl
@[go_sem] theorem na633(r:Option Nat)(w:World):(nilAhead 809 633 (.map r) "IterateUsing").run prog w=.ok (some false) w:=by kernel_rfl
def VAll(J:Gh)(s:Nat):Prop:=∀(a:Value) (t:Tr),Q0r J a t->∀N,t.size<=N->t.size<=s->∀(b vb sb nb al:Nat) (d ded:Bool) (n:Nat) (sp:OA) (PB VB:List Blk) (R:List Rw) (f:Value),Q2c J sb->Nm J nb (nmTy ded)->Q2n J VB vb a->Pool 479 696 475 11 n sp PB R->n<=N/\N<2 ^ 30->
 Ac 248 #[pt b,f] J ((b,vc vb sb nb al d sp,.t 479)::(PB++VB)) R (X2m J b vb sb nb al d N sp VB)
def mL(y1 y2 y3 b mp vb sb nb al:Nat)(d:Bool)(sp:OA):List Blk:=[(y1,[pt b],.t 475),(y2,[pt mp],.t 109),(y3,[sn],.t 373),(b,vc vb sb nb al d sp,.t 479)]
variable{rel:Value}{t:Tr}{ded':Bool}{s0 y1 y2 y3 mp nb2 r:Nat}
theorem vclo_s{vb2:Nat}{v:Value}{s:BA}(IH:VAll J s0)(ht:Q0r J v t)(hN:t.size+1<=N)(hs0:t.size<=s0)(hs:Q2c J sb)(hnm:Nm J nb2 (nmTy ded'))(hnN:n<=N/\N<2 ^ 30)
  (hmp:J mp=some (.cells (L2r nb2 rel).toArray 337 (0,0)))(hp:Pool 479 696 475 11 n sp PB R):
  Ac 484 ((L2t s vb2).toArray++(L1o y2 y3 y1).toArray) J ((vb2,[v],.t 430)::(mL y1 y2 y3 b mp vb sb nb al d sp++PB)) R
   fun u K L2 R2=>u=.bool true/\K=J/\∃n' sp' PB',n'<=N/\Q3b sp sp'/\Pool 479 696 475 11 n' sp' PB' R2/\L2=(vb2,[v],.t 430)::(mL y1 y2 y3 b mp vb sb nb al d sp'++PB'):=by
 intro M I w W S;have hF:∀(i:Nat) u,((L1b nb2):List Value)[i]?=some u->J.cell (ad mp (2+i)) u:=fun i u hu=>by
  refine⟨_,_,_,hmp,rfl,?_⟩;match i,hu with
  |0,h|1,h|2,h|3,h|4,h|5,h=>simpa using h
  |i+6,h=>simp at h
 have hc0:J.cell (ad mp 0) (sn):=⟨_,_,_,hmp,rfl,rfl⟩
 have HC:=Hd hc0;have HV:=Hd (nd6 IH ht hN hs0 hs (nd3 hnm hnN hp));clear IH ht hN hs0 hs hnm hnN hmp hc0;simp only[mL,vc,cons_append,nil_append]at S;go_enter func484,ntmps484;go_wp2_with (first|refine wk ?_|refine X9l (sub:=(L1b nb2)) rf rfl rfl rfl hF S.out.inw ?_|refine Ws ?_;clear S;intro W S|refine wn ?_;clear S;intro _ W S)
 refine got S (Q3k _ mp s HC.out) ?_;clear S;intro W S;go_wp2_with (first|refine wk ?_|refine X9l (sub:=(L1b nb2)) rf rfl rfl rfl hF S.out.inw ?_|refine Ws ?_;clear S;intro W S|refine wn ?_;clear S;intro _ W S)
 refine Q0a S (vprep_s (b:=b) (vb:=vb) (sb:=sb) (nb:=nb) (al:=al) (d:=d) (nb2:=nb2) hp (by have:=HV.out.2.2.2.2.2.2.1;omega)) ?_;rintro r K L1 R1 W' hle ⟨rfl,b2,P,PB1,rfl,hq1,hq2,rfl⟩ S2;have HQ:=Hd (And.intro hq1 hq2);clear S hq1 hq2;have S:=S2;clear S2;replace S:=sa S;go_wp2_with (first|refine wk ?_|refine X9l (sub:=(L1b nb2)) rf rfl rfl rfl hF S.out.inw ?_|refine Ws ?_;clear S;intro W S|refine wn ?_;clear S;intro _ W S)
 refine Rg S [(y3,[sn],.t 373)] [] [4] [0,1] 3 fun W S=>?_;refine Zw [] 2 2 ?_;intro KK hKK;go_simp;have hcall:=HV.out.1 _ _ HV.out.2.1 (N -1) (by have:=HV.out.2.2.1;omega) HV.out.2.2.2.1 b2 vb2 sb nb2 al d ded' (n -1) (some (ad P 0)) PB1 [(vb2,[v],.t 430)] R1 .nilFunc HV.out.2.2.2.2.1 HV.out.2.2.2.2.2.1 (.inr ⟨430,by simp⟩) HQ.out.2 (by have:=HV.out.2.2.2.2.2.2.1;omega);simp only[vc]at hcall;refine Q0a S hcall ?_;clear hcall;rintro r K L' R2 W' hle ⟨rfl,rfl,n2,sp2,PB2,hn2,hsp2,hp2,rfl⟩ S2;obtain rfl:sp2=some (ad P 0):=by cases hsp2;rfl
 have HP:=Hd (nd3 hn2 trivial hp2);clear S hn2 hsp2 hp2;have S:=S2;clear S2;replace S:=sa S;simp only[vc]at S;refine Yw [] 1 3 ?_;intro KK hKK;refine Q4b rfl rfl rfl underlying373 Z0q ?_;refine Hy ?_;refine Cl 4 fun KK hKK=>?_;refine Q0j (v:=sn) S rfl rfl rfl rfl ?_;clear S;intro W S;refine hKK.out _ _ (NoPanic.normal ?_);clear hKK KK;go_wp2_with (first|refine wk ?_|refine X9l (sub:=(L1b nb2)) rf rfl rfl rfl hF S.out.inw ?_|refine Ws ?_;clear S;intro W S|refine wn ?_;clear S;intro _ W S)
 have hP:=HP.out;refine Q0a S (vfin_s (b:=b) (b2:=b2) (c2:=(L1d vb2 sb nb2 d P al)) (vb:=vb) (sb:=sb) (nb:=nb) (al:=al) (d:=d) HP.out.2.2 rfl (by have:=HV.out.2.2.2.2.2.2.1;have:=HP.out.1;omega)) ?_;rintro r K L3 R3 W' hle ⟨rfl,PB3,hp3,rfl⟩ S2;have HF:=Hd hp3;clear S hp3;have S:=S2;clear S2;replace S:=sa S;go_wp2_with (first|refine wk ?_|refine X9l (sub:=(L1b nb2)) rf rfl rfl rfl hF S.out.inw ?_|refine Ws ?_;clear S;intro W S|refine wn ?_;clear S;intro _ W S)
 go_ret;exact ap gR ⟨rfl,rfl,_,_,PB3,(by have:=HP.out.1;have:=HV.out.2.2.1;omega),HQ.out.1,HF.out,rfl⟩ (show St _ _ _ _ _ ((vb2,[v],.t 430)::(y1,[pt b],.t 475)::(y2,[pt mp],.t 109)::(y3,[sn],.t 373)::(b,L1d vb sb nb d P al,.t 479)::PB3) _ from keep S)
theorem Z0o{l:KT}{i:Nat}{k:BA}(h:l[i]?=some (k,t)):t.size<=Q0p l:=by
 induction l generalizing i with
 |nil=>simp at h
 |cons p l ih=>
  cases i with
  |zero=>simp at h;subst h;simp[Q0p]
  |succ i=>have:=ih b0b;simp only[Q0p];omega
def mInv(J:Gh)(y1 y2 y3 b mp vb sb nb al:Nat)(d:Bool)(N:Nat)(sp:OA)(K:Gh)(L':List Blk)(R':List Rw):Prop:=
 K=J/\∃n' sp' PB',n'<=N/\Q3b sp sp'/\Pool 479 696 475 11 n' sp' PB' R'/\L'=mL y1 y2 y3 b mp vb sb nb al d sp'++PB'
variable{ts:KT}{vs:KV}
theorem viter_s(IH:VAll J s0)(hm:J.map r vs)(hk:vs.map (·.1)=ts.map (·.1))(h:∀(i:Nat) v t,vs[i]?=some v->ts[i]?=some t->Q0r J v.2 t.2)(hN:1+Q0p ts<=N)(hs0:Q0p ts<=s0)(hs:Q2c J sb)(hnm:Nm J nb2 (nmTy ded'))(hnN:n<=N/\N<2 ^ 30)
  (hmp:J mp=some (.cells (L2r nb2 rel).toArray 337 (0,0)))(hp:Pool 479 696 475 11 n sp PB R):
  Ac 513 #[.map (some r),.iface 340 (pt al),.func (.func 484) #[] (L1o y2 y3 y1).toArray] J (mL y1 y2 y3 b mp vb sb nb al d sp++PB) R
   fun u K L' R'=>u=.bool true/\mInv J y1 y2 y3 b mp vb sb nb al d N sp K L' R':=by
 refine(Z2k 484 (L1o y2 y3 y1).toArray (ad al 0) r vs J (mL y1 y2 y3 b mp vb sb nb al d sp++PB) R hm (Go.MuLone.run_callFunc_enter func484 kr rfl)
  (fun s v hf=>?_) (fun _ K L' R'=>mInv J y1 y2 y3 b mp vb sb nb al d N sp K L' R') ⟨rfl,n,sp,PB,hnN.1,.same,hp,rfl⟩ ?_).mono ?_
 ·obtain⟨i,u,h1,h2,_⟩:=Q3p hk hf;exact⟨_,(h i _ _ h1 h2).ak⟩
 ·rintro left K L' R' s v vb2 hle ⟨rfl,n',sp',PB',g1,g2,g3,rfl⟩ hs1 hl hf;obtain⟨i,u,h1,h2,_⟩:=Q3p hk hf;have hz:=Z0o h2;refine(vclo_s IH (h i _ _ h1 h2) (N:=N) b1y b1y hs hnm ⟨g1,hnN.2⟩ hmp g3).mono ?_;rintro u K L2 R2 _ ⟨hu,rfl,n2,sp2,PB2,e1,e2,e3,rfl⟩;exact⟨hu,_,rfl,rfl,n2,sp2,PB2,e1,g2.trans e2,e3,rfl⟩
 ·rintro u K L' R' _ ⟨hu,_,_,hI⟩;exact⟨hu,hI⟩
theorem vitems_s(IH:VAll J s0)(hm:J.map r vs)(hk:vs.map (·.1)=ts.map (·.1))(h:∀(i:Nat) v t,vs[i]?=some v->ts[i]?=some t->Q0r J v.2 t.2)(hN:1+Q0p ts<=N)(hs0:Q0p ts<=s0)(hs:Q2c J sb)(hnm:Nm J nb2 (nmTy ded'))(hnN:n<=N/\N<2 ^ 30)
  (hmp:J mp=some (.cells (L2r nb2 rel).toArray 337 (0,0)))(hp:Pool 479 696 475 11 n sp PB R):
  Ac 481 #[pt b,pt mp,.iface 633 (.map (some r))] J ((b,vc vb sb nb al d sp,.t 479)::(PB++VB)) R (X2m J b vb sb nb al d N sp VB):=by
 intro M I w W S;have HV:=Hd (nd6 IH hm hk h hN (nd6 hs0 hs hnm hnN hmp hp));clear IH hm hk h hN hs0 hs hnm hnN hmp hp;simp only[vc]at S;go_enter func481,ntmps481;go_wp2_with (first|refine wk ?_|refine Ws ?_;clear S;intro W S|refine wA ?_;clear S;intro y3 W S|refine wB ?_;clear S;(first|(fail_if_success revert y1);intro y1 W S|intro y2 W S))
 refine Rg S [(y1,[pt b],.t 475),(b,L0m vb sb nb d sp al,.t 479)] [] [9] [0,1,2,3,4,5,6,7,8] 1 fun W S=>?_;refine tk1 ?_;refine Sh [] 0 9 fun KK hKK=>?_;go_simp;have hcall:=viter_s (y1:=y1) (y2:=y2) (y3:=y3) (b:=b) (vb:=vb) (sb:=sb) (nb:=nb) (al:=al) (d:=d) HV.out.1 HV.out.2.1 HV.out.2.2.1 HV.out.2.2.2.1 HV.out.2.2.2.2.1 HV.out.2.2.2.2.2.1 HV.out.2.2.2.2.2.2.1 HV.out.2.2.2.2.2.2.2.1 HV.out.2.2.2.2.2.2.2.2.1 HV.out.2.2.2.2.2.2.2.2.2.1 HV.out.2.2.2.2.2.2.2.2.2.2;simp only[mL,vc,cons_append,nil_append]at hcall;refine Q0a S hcall ?_;clear hcall;rintro r2 K L' R2 W' hle ⟨rfl,rfl,n2,sp2,PB2,hn2,hsp2,hp2,rfl⟩ S2;have HP:=Hd (nd3 hn2 hsp2 hp2);clear S hn2 hsp2 hp2;have S:=S2;clear S2;simp only[mL,vc,cons_append,nil_append,List.append_nil,List.append_assoc]at S;refine hKK.out _ _ ?_;clear hKK KK;refine yf ?_;refine En ?_;go_wp2_with (first|refine wk ?_|refine Ws ?_;clear S;intro W S)
 refine bT ?_;exact ap gR ⟨rfl,rfl,n2,sp2,PB2,HP.out.1,HP.out.2.1,HP.out.2.2,rfl⟩ (show St _ _ _ _ _ ((b,L0m vb sb nb d sp2 al,.t 479)::(PB2++VB)) _ from keep S)
theorem vmap_s{a:Value}(IH:VAll J s0)(ht:Q0r J a t)(hkd:t.kind=0\/t.kind=6)(hN:t.size<=N)(hs0:t.size<=s0+1)(hv:Q2n J VB vb a)(hs:Q2c J sb)(hnm:Nm J nb2 (nmTy ded'))(hnN:n<=N/\N<2 ^ 30)
  (hmp:J mp=some (.cells (L2r nb2 rel).toArray 337 (0,0)))(hp:Pool 479 696 475 11 n sp PB R):
  Ac 478 #[pt b,pt mp] J ((b,vc vb sb nb al d sp,.t 479)::(PB++VB)) R (X2m J b vb sb nb al d N sp VB):=by
 intro M I w W S;cases ht with
 |null=>
  have HV:=Hd (nd3 hv hnN hp);clear IH hkd hN hs0 hv hs hnm hnN hmp hp;simp only[vc]at S;go_enter_defers func478,ntmps478;go_wp2_with fail
  refine Rg S [(b,L0m vb sb nb d sp al,.t 479)] [] [] [0,1,2,3,4,5,6,7] 6 fun W S=>?_;refine Zw [9,10,11,12,13] 0 8 ?_;intro KK hKK;go_simp;refine(X0q _ S.out.inw (HV.out.1.at gR S)).mono ?_;rintro e W ⟨rfl,st⟩;replace S:=Hd (S.out.call st);clear st;refine Et ?_;go_wp2_with fail
  exact⟨_,results_tmp rfl _ _ _,ap gR ⟨rfl,rfl,n,sp,PB,HV.out.2.1.1,.same,HV.out.2.2,rfl⟩ (show St _ _ _ _ _ ((b,L0m vb sb nb d sp al,.t 479)::(PB++VB)) _ from keep S)⟩
 |map r vs ts hm hk h=>
  have hcall:=vitems_s (b:=b) (vb:=vb) (nb:=nb) (al:=al) (d:=d) (sp:=sp) (VB:=VB) IH hm hk h b2c (by simp only[Tr.size]at hs0;omega) hs hnm hnN hmp hp;have HV:=Hd (nd3 hv hnN hcall);clear IH hkd hN hs0 hv hs hnm hnN hmp hp hm hk h hcall;simp only[vc]at S HV;go_enter_defers func478,ntmps478;go_wp2_with fail
  refine Rg S [(b,L0m vb sb nb d sp al,.t 479)] [] [] [0,1,2,3,4,5,6,7] 6 fun W S=>?_;refine Zw [9,10,11,12,13] 0 8 ?_;intro KK hKK;go_simp;refine(Q9y _ S.out.inw (HV.out.1.at gR S)).mono ?_;rintro e W ⟨rfl,st⟩;replace S:=Hd (S.out.call st);clear st;refine Et ?_;go_wp2_with (refine wk ?_)
  refine Q0a S HV.out.2.2 ?_;rintro r2 K L' R2 W' hle ⟨rfl,rfl,n2,sp2,PB2,hn2,hsp2,hp2,rfl⟩ S2;have HP:=Hd (nd3 hn2 hsp2 hp2);clear S hn2 hsp2 hp2;have S:=S2;clear S2;simp only[vc,cons_append,nil_append,List.append_nil,List.append_assoc]at S;go_wp2_with fail
  exact e0y
 |bool|int|flt|str|list=>rcases hkd with h|h<;>cases h
end
end Go.Proofs.YtbmklgemmjgjfaaGreat
