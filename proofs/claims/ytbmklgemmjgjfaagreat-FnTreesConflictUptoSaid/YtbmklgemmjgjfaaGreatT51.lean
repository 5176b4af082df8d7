/- Part 51: Eqn. -/
import Derived.Test.YtbmklgemmjgjfaaGreatT48
namespace Go.Proofs.YtbmklgemmjgjfaaGreat
open Go.RowKit Go.Maps Tryz
set_option linter.unusedVariables false
set_option linter.unusedSimpArgs false
set_option maxRecDepth 100000
set_option maxHeartbeats 160000000
section
theorem X5a:∀{{l m:List Tr}},l.length=m.length->(eqL l m=true<->∀(i:Nat) x y,l[i]?=some x->m[i]?=some y->eqT x y=true)
 |[],[],_=>by simp[eqL]
 |[],_::_,h=>by simp at h
 |_::_,[],h=>by simp at h
 |a::l,b::m,h=>by
  have ih:=X5a (l:=l) (m:=m) b0b;simp only[eqL,Bool.and_eq_true,ih];constructor
  ·rintro⟨h1,h2⟩ i x y hx hy;cases i with
   |zero=>simp at hx hy;subst hx;subst hy;exact h1
   |succ i=>exact h2 i x y (by simpa using hx) (by simpa using hy)
  ·intro h;exact⟨h 0 a b rfl rfl,fun i x y hx hy=>h (i+1) x y (by simpa using hx) (by simpa using hy)⟩
theorem eqM_nth:∀{{l m:KT}},(eqM l m=true<->l.map (·.1)=m.map (·.1)/\eqL (l.map (·.2)) (m.map (·.2))=true)
 |[],[]=>by simp[eqM,eqL]
 |[],_::_=>by simp[eqM]
 |_::_,[]=>by simp[eqM]
 |(k,a)::l,(k',b)::m=>by
  have ih:=eqM_nth (l:=l) (m:=m);simp only[eqM,Bool.and_eq_true,ih,List.map_cons,eqL,Q6p,decide_eq_true_eq,List.cons.injEq];constructor
  ·rintro⟨⟨h1,h2⟩,h3,h4⟩;exact⟨⟨h1,h3⟩,h2,h4⟩
  ·rintro⟨⟨h1,h3⟩,h2,h4⟩;exact⟨⟨h1,h2⟩,h3,h4⟩
theorem X7w:∀{{l m:List Tr}},eqL l m=true->l.length=m.length
 |[],[],_=>rfl
 |[],_::_,h=>by cases h
 |_::_,[],h=>by cases h
 |a::l,b::m,h=>by simp only[eqL,Bool.and_eq_true]at h;simp[X7w h.2]
theorem eqT_same{{t s:Tr}}(hk:t.kind=s.kind)(hn:¬numK t.kind=true):eqT t s=true<->(t.iv.n=s.iv.n/\t.iv.s=s.iv.s/\t.iv.ks=s.iv.ks/\eqL t.kids s.kids=true):=by
 cases t<;>cases s<;>first|(exfalso;revert hk;simp[Tr.kind];done)|(exfalso;revert hn;simp[numK,Tr.kind];done)|skip
 ·simp[eqT,Tr.iv,IV.n,IV.s,IV.ks,Tr.kids,eqL]
 ·rename_i a b;cases a<;>cases b<;>simp[eqT,Tr.iv,IV.n,IV.s,IV.ks,Tr.kids,eqL]
 ·simp[eqT,Tr.iv,IV.n,IV.s,IV.ks,Tr.kids,eqL,Q6p]
 ·simp[eqT,Tr.iv,IV.n,IV.s,IV.ks,Tr.kids]
 ·rename_i a b
  simp only[eqT,Tr.iv,IV.n,IV.s,IV.ks,Tr.kids,eqM_nth,true_and]
variable{ks:List BA}
theorem X0v{I:Gh}{a:OA}(h:Q4h I a ks){i:Nat}{x:BA}(hx:ks[i]?=some x):∃b o,a=some (ad b o)/\I.cell (ad b (o+i)) (.string x):=by
 rcases h with⟨_,rfl⟩|⟨b,o,rfl,h⟩
 ·simp at hx
 ·exact⟨b,o,rfl,h _ _ hx⟩
variable{a b:BA}
theorem seq_t(h:a=b):(a.toList==b.toList)=true:=by have:=Q6p a b;unfold seq at this;rw[this];simp[h]
theorem seq_f(h:a≠b):(a.toList==b.toList)=false:=by have:=Q6p a b;unfold seq at this;rw[this];simp[h]
variable{J:Gh}
theorem z0k{P:Prop}(h:P:=by
 go_enter func78,ntmps78;go_wp2_with (first|refine wk ?_|refine wn ?_;clear S;(first|(fail_if_success revert y1);intro y1 W S|intro y2 W S)|go_at_call 131;refine got S (hnum) ?_;clear S;intro W S)
 go_ret;exact⟨rfl,S.out.step⟩):P:=h
theorem eqp_core(N:Nat)(IH:EqpH N){kd n1 n2:Int}{f1 f2:Nat}{s1 s2:BA}{a1 a2 d1 d2:OA}{c1 c2 e1 e2:Nat}{ls:List BA}{vs us:List V6}{ts ss:List Tr}(hnk:numK kd=false)(hk1:Q4h J a1 ks)(hk2:Q4h J d1 ls)(h1:Q6n J a2 vs)(hv:All2 (fun v u=>VIs J v u.iv) vs ts)(h2:Q6n J d2 us)(hu:All2 (fun v u=>VIs J v u.iv) us ss)(hts:∀t∈ts,t.bulk<N/\t.bulk<2 ^ 30)(hss:∀t∈ss,t.bulk<2 ^ 30)(hl1:ks.length<2 ^ 30)(hl2:ts.length<2 ^ 30)(w:World)(hi:J.In w):
  Calls prog 78 #[.agg (L0e kd n1 f1 s1 a1 ks.length c1 a2 ts.length c2).toArray,.agg (L0e kd n2 f2 s2 d1 ls.length e1 d2 ss.length e2).toArray] w (Got Nix J w (.bool (decide (n1=n2/\s1=s2/\ks=ls)&&eqL ts ss))):=by
 refine Q0c (M:=Nix) hi ?_;intro W S;have HT:=Hd (nd6 hk1 hk2 h1 hv h2 (nd5 hu hts hss hl1 hl2));have hnum:=Z2m J ⟨kd,n1,f1,s1,a1,ks.length,c1,a2,ts.length,c2⟩;simp only[V6.agg,hnk]at hnum;clear hk1 hk2 h1 hv h2 hu hts hss hl1 hl2 hnk;by_cases hn:n1=n2;rotate_left
 ·have hr:(decide (n1=n2/\s1=s2/\ks=ls)&&eqL ts ss)=false:=by simp[hn]
  rw[hr];clear hr;exact z0k
 subst hn;by_cases hs:s1=s2;rotate_left
 ·have hr:(decide (n1=n1/\s1=s2/\ks=ls)&&eqL ts ss)=false:=by simp[hs]
  rw[hr];have hq:=seq_f hs;clear hr hs;exact z0k
 subst hs;by_cases hkl:ks.length=ls.length;rotate_left
 ·have hr:(decide (n1=n1/\s1=s1/\ks=ls)&&eqL ts ss)=false:=by have:ks≠ls:=fun e=>hkl (by rw[e]);simp[this]
  rw[hr];clear hr;exact z0k
 by_cases htl:ts.length=ss.length;rotate_left
 ·have hr:(decide (n1=n1/\s1=s1/\ks=ls)&&eqL ts ss)=false:=by
   cases he:eqL ts ss with
   |false=>simp
   |true=>exact absurd (X7w he) htl
  rw[hr];have hq:=X5o hkl;have hq2:=int_nne htl;clear hr hkl htl;exact z0k
 have hq:=X5o hkl;have hq2:=X5o htl;have HL:=Hd (And.intro hkl htl);clear hkl htl;obtain⟨res,hres⟩:∃r,r=(decide (ks=ls)&&eqL ts ss):=⟨_,rfl⟩
 have e0:(decide (n1=n1/\s1=s1/\ks=ls)&&eqL ts ss)=res:=by rw[hres];simp
 rw[e0];clear e0;have HR:=Hd hres;clear hres;go_enter func78,ntmps78;go_wp2_with (first|refine wk ?_|refine wn ?_;clear S;(first|(fail_if_success revert y1);intro y1 W S|intro y2 W S)|go_at_call 131;refine got S (hnum) ?_;clear S;intro W S)
 clear hnum;go_loopg [69] ks.length (fun m s69 wr=>∃(i:Nat),s69=.int .i64 (i:Nat)/\i<=ks.length/\m=ks.length -i/\Hid (St Nix J J w wr [(y2,L0e kd n1 f2 s1 d1 ls.length e1 d2 ss.length e2,.t 35),(y1,L0e kd n1 f1 s1 a1 ks.length c1 a2 ts.length c2,.t 35)] [])/\Hid (ks.take i=ls.take i))
 case atStart=>exact⟨0,rfl,Nat.zero_le _,rfl,S,Hd rfl⟩
 case round=>
  clear S;obtain⟨i,rfl,hi1,hg,S,HW⟩:=hrel;by_cases hlt:i<ks.length
  ·have hlt2:i<ls.length:=by rw[<-HL.out.1];exact hlt
   obtain⟨x,hx⟩:∃x,ks[i]?=some x:=gx hlt;obtain⟨y,hy⟩:∃x,ls[i]?=some x:=gx hlt2;obtain⟨ba,oa,rfl,hc1⟩:=X0v HT.out.1 hx;obtain⟨bd,od,rfl,hc2⟩:=X0v HT.out.2.1 hy;have HX:=Hd (nd4 hc1 hc2 hx hy);have hN:i+1<2 ^ 32:=by have:=HT.out.2.2.2.2.2.2.2.2.1;omega
   clear hx hy hc1 hc2;by_cases hxy:x=y
   ·have hb:=seq_t hxy;have HE:=Hd hxy;clear hxy;go_wp2_with fail
    refine Rg S [(y2,[.int .i64 kd,.int .i64 n1,.float .f64 f2,.string s1,.slice (some (ad bd od)) ls.length e1,.slice d2 ss.length e2],.t 35),(y1,[.int .i64 kd,.int .i64 n1,.float .f64 f1,.string s1,.slice (some (ad ba oa)) ks.length c1,.slice a2 ts.length c2],.t 35)] [] [] [0,1,2,3,4,5,6,7,8,9,10] 0 fun W S=>?_;refine tk5 ?_;refine En ?_;go_wp2_with fail
    go_roundg (ks.length -(i+1))
    case measure=>omega
    case rel=>exact⟨i+1,by simp,by omega,rfl,S,Hd (by rw[Q1k HX.out.2.2.1,Q1k HX.out.2.2.2,HW.out,HE.out])⟩
   ·have hb:=seq_f hxy;have HE:=Hd hxy;clear hxy;go_wp2_with fail
    refine Rg S [(y2,[.int .i64 kd,.int .i64 n1,.float .f64 f2,.string s1,.slice (some (ad bd od)) ls.length e1,.slice d2 ss.length e2],.t 35),(y1,[.int .i64 kd,.int .i64 n1,.float .f64 f1,.string s1,.slice (some (ad ba oa)) ks.length c1,.slice a2 ts.length c2],.t 35)] [] [] [0,1,2,3,4,5,6,7,8,9,10] 0 fun W S=>?_;refine tk5 ?_;refine En ?_;go_wp2_with fail
    have hr:(decide (ks=ls)&&eqL ts ss)=false:=by
     have:ks≠ls:=fun e=>HE.out (by have h1:=HX.out.2.2.1;rw[e,HX.out.2.2.2]at h1;exact(Option.some.inj h1).symm);simp[this]
    rw[HR.out.trans hr];go_ret;exact⟨rfl,S.out.step⟩
  ·have hi2:i=ks.length:=by omega
   subst hi2;have hke:ks=ls:=by have:=HW.out;rw[List.take_length,HL.out.1,List.take_length]at this;exact this
   have HKE:=Hd hke;clear hke HW;go_wp2_with (refine wk ?_)
   go_loopg [87] ts.length (fun m s87 wr=>∃(i:Nat),s87=.int .i64 (i:Nat)/\i<=ts.length/\m=ts.length -i/\Hid (St Nix J J w wr [(y2,L0e kd n1 f2 s1 d1 ls.length e1 d2 ss.length e2,.t 35),(y1,L0e kd n1 f1 s1 a1 ks.length c1 a2 ts.length c2,.t 35)] [])/\Hid (∀(j:Nat) x y,j<i->ts[j]?=some x->ss[j]?=some y->eqT x y=true))
   case atStart=>exact⟨0,rfl,Nat.zero_le _,rfl,S,Hd (fun j x y h=>absurd h om)⟩
   case round=>
    clear S;obtain⟨i,rfl,hi1,hg,S,HW⟩:=hrel;by_cases hlt:i<ts.length
    ·have hlt2:i<ss.length:=by rw[<-HL.out.2];exact hlt
     obtain⟨ti,hx⟩:∃x,ts[i]?=some x:=gx hlt;obtain⟨ui,hxu⟩:∃x,us[i]?=some x:=gx (by rw[HT.out.2.2.2.2.2.1.length];exact hlt2);obtain⟨vi,hxv⟩:∃x,vs[i]?=some x:=gx (by rw[HT.out.2.2.2.1.length];exact hlt);obtain⟨si,hy⟩:∃x,ss[i]?=some x:=gx hlt2;obtain⟨ba,oa,rfl,hc1⟩:=X8c HT.out.2.2.1 hxv;obtain⟨bd,od,rfl,hc2⟩:=X8c HT.out.2.2.2.2.1 hxu;have HX:=Hd (nd6 hc1 hc2 (HT.out.2.2.2.2.2.2.1 ti (List.mem_of_getElem? hx)) (HT.out.2.2.2.2.2.2.2.1 si (List.mem_of_getElem? hy)) (HT.out.2.2.2.1.get hxv hx) (nd3 (HT.out.2.2.2.2.2.1.get hxu hy) hx hy));have hN:i+1<2 ^ 32:=by have:=HT.out.2.2.2.2.2.2.2.2.2;omega
     clear hx hy hc1 hc2 hxu hxv;go_wp2_with fail
     refine Rg S [(y2,[.int .i64 kd,.int .i64 n1,.float .f64 f2,.string s1,.slice d1 ls.length e1,.slice (some (ad bd od)) ss.length e2],.t 35),(y1,[.int .i64 kd,.int .i64 n1,.float .f64 f1,.string s1,.slice a1 ks.length c1,.slice (some (ad ba oa)) ts.length c2],.t 35)] [] [] [0,1,2,3,4,5,6,7,8,9] 2 fun W S=>?_;refine tk6 ?_;refine Wr [11] 0 10 fun KK hKK=>?_;go_simp;have hcall:=IH J vi ui ti si W HX.out.2.2.1.1 HX.out.2.2.1.2 HX.out.2.2.2.1 S.out.inw HX.out.2.2.2.2.1 HX.out.2.2.2.2.2.1;unfold V6.agg at hcall;refine hcall.mono ?_;clear hcall;rintro e9 W ⟨rfl,st9⟩;replace S:=Hd (S.out.call st9);clear st9;refine Hk ?_;refine tk6 ?_;refine En ?_;cases he:eqT ti si with
     |true=>
      go_wp2_with fail
      go_roundg (ts.length -(i+1))
      case measure=>omega
      case rel=>
       refine⟨i+1,by simp,by omega,rfl,S,Hd (fun j x y hj h3 h4=>?_)⟩;by_cases hji:j=i
       ·subst hji;rw[HX.out.2.2.2.2.2.2.1]at h3;rw[HX.out.2.2.2.2.2.2.2]at h4;cases h3;cases h4;exact he
       ·exact HW.out j x y om h3 h4
     |false=>
      go_wp2_with fail
      have hr:(decide (ks=ls)&&eqL ts ss)=false:=by
       cases h5:eqL ts ss with
       |false=>simp
       |true=>
        have:=(X5a HL.out.2).1 h5 i ti si HX.out.2.2.2.2.2.2.1 HX.out.2.2.2.2.2.2.2;rw[he]at this;cases this
      rw[HR.out.trans hr];go_ret;exact⟨rfl,S.out.step⟩
    ·have hi2:i=ts.length:=by omega
     subst hi2;go_wp2_with fail
     have hr:(decide (ks=ls)&&eqL ts ss)=true:=by
      have h5:eqL ts ss=true:=(X5a HL.out.2).2 fun j x y h3 h4=>HW.out j x y (List.getElem?_eq_some_iff.1 h3).1 h3 h4;rw[h5,Bool.and_true,decide_eq_true_eq];exact HKE.out
     rw[HR.out.trans hr];go_ret;exact⟨rfl,S.out.step⟩
theorem Z3o{α β γ:Type}{R:α->γ->Prop}{f:β->γ}:∀{l:List α} {m:List β},All2 R l (m.map f)->All2 (fun a b=>R a (f b)) l m
 |[],[],_=>.nil
 |[],_::_,h=>by cases h
 |_::_,[],h=>by cases h
 |_::_,_::_,h=>by cases h with|cons h t=>exact .cons h (Z3o t)
theorem eqp_all:∀N,EqpH N
 |0=>fun J v u t s w h=>absurd h (Nat.not_lt_zero _)
 |N+1=>fun J v u t s w hN hb1 hb2 hi hv hu=>by
  by_cases hne:(numK t.kind=true/\numK s.kind=true)\/t.kind≠s.kind
  ·exact eqp_other J v u t s w hne hi hv hu
  ·have hk:t.kind=s.kind:=Decidable.byContradiction fun h=>hne (.inr h);have hn:¬numK t.kind=true:=fun h=>hne (.inl ⟨h,hk▸h⟩);obtain⟨a1,c1,a2,c2,vs,rfl,_,_,_,q1,_,q2,q3⟩:=hv.inv;obtain⟨d1,e1,d2,e2,us,rfl,_,_,_,r1,_,r2,r3⟩:=hu.inv;have el:t.iv.l.length=t.kids.length:=by rw[iv_l];simp
   have el2:s.iv.l.length=s.kids.length:=by rw[iv_l];simp
   rw[iv_l]at q3 r3;have ek:s.iv.k=t.iv.k:=by rw[iv_k,iv_k,hk]
   have hks:t.iv.ks.length<2 ^ 30:=by have h1:=Z9t t.iv.ks;have h2:=Q3s t;cases h3:t.iv with|mk k n f s ks l=>rw[h3]at h1 h2;simp only[IV.ks,IV.bulk]at h1 h2⊢;omega
   have hkl:t.kids.length<2 ^ 30:=by rw[<-el];have h1:=Z2r t.iv.l;have h2:=Q3s t;cases h3:t.iv with|mk k n f s ks l=>rw[h3]at h1 h2;simp only[IV.l,IV.bulk]at h1 h2⊢;omega
   have key:=eqp_core N (eqp_all N) (kd:=t.iv.k) (n1:=t.iv.n) (n2:=s.iv.n) (f1:=t.iv.f) (f2:=s.iv.f) (s1:=t.iv.s) (s2:=s.iv.s) (c1:=c1) (c2:=c2) (e1:=e1) (e2:=e2) (by rw[iv_k];simpa using hn) q1 r1 q2 (Z3o q3) r2 (Z3o r3) (fun x hx=>by have:=Z1i hx;omega) (fun x hx=>by have:=Z1i hx;omega) hks hkl w hi;have e3:(decide (t.iv.n=s.iv.n/\t.iv.s=s.iv.s/\t.iv.ks=s.iv.ks)&&eqL t.kids s.kids)=eqT t s:=by
    refine Bool.eq_iff_iff.2 ?_;rw[eqT_same hk hn,Bool.and_eq_true,decide_eq_true_eq];exact⟨fun⟨⟨a,b,c⟩,d⟩=>⟨a,b,c,d⟩,fun⟨a,b,c,d⟩=>⟨⟨a,b,c⟩,d⟩⟩
   rw[e3]at key;simp only[V6.agg,el,el2,ek];exact key
variable{v u:V6}
theorem X1t{t s:Tr}(hv:VIs J v t.iv)(hu:VIs J u s.iv)(hb1:t.bulk<2 ^ 30)(hb2:s.bulk<2 ^ 30)(w:World)(hi:J.In w):Calls prog 78 #[v.agg,u.agg] w (Got Nix J w (.bool (eqT t s))):=
 eqp_all _ J v u t s w (Nat.lt_succ_self _) hb1 hb2 hi hv hu
theorem Z2c{x y:IV}(hv:VIs J v x)(hu:VIs J u y)(hb1:x.bulk<2 ^ 30)(hb2:y.bulk<2 ^ 30):Ac 35 #[v.agg,u.agg] J [] []<|N0 fun r K=>r=.bool (eqT x.tr y.tr):=by
 intro M I w W S;have HT:=Hd (nd4 hv hu hb1 hb2);clear hv hu hb1 hb2;unfold V6.agg;go_enter func35,ntmps35;go_wp2_with (first|refine wk ?_|refine wn ?_;clear S;(first|(fail_if_success revert y1);intro y1 W S|intro y2 W S))
 refine Rg S [(y2,L0a u,.t 35),(y1,L0a v,.t 35)] [] [] [0,2] 4 fun W S=>?_;refine Zw [] 3 1 ?_;intro KK hKK;go_simp;have hcall:=Q7j (HT.out.1) (by have:=HT.out.2.2.1;omega) W S.out.inw;simp only[V6.agg]at hcall;refine hcall.mono ?_;clear hcall;rintro e9 W ⟨va,K5,rfl,st9,hva⟩;have HA:=Hd (And.intro hva st9.le);have hle5:=st9.le;replace S:=Hd (S.out.call st9);clear st9 hva;unfold V6.agg;refine Yw [] 2 3 ?_;intro KK hKK;go_simp;have hcall:=Q7j (HT.out.2.1.mono HA.out.2) (by have:=HT.out.2.2.2;omega) W S.out.inw;simp only[V6.agg]at hcall;refine hcall.mono ?_;clear hcall;rintro e9 W ⟨vb,K6,rfl,st9,hvb⟩;have HB:=Hd (And.intro hvb (gT HA.out.2 st9.le));have HA2:=Hd (HA.out.1.mono st9.le);have hle6:=gT hle5 st9.le;replace S:=Hd (S.out.call st9);clear st9 hvb;unfold V6.agg;refine Yw [5] 0 4 ?_;intro KK hKK;go_simp;have hcall:=X1t HA2.out HB.out.1 (by have:=Q2o x;have:=HT.out.2.2.1;omega) (by have:=Q2o y;have:=HT.out.2.2.2;omega) W S.out.inw;simp only[V6.agg]at hcall;refine hcall.mono ?_;clear hcall;rintro e9 W ⟨rfl,st9⟩;replace S:=Hd (S.out.call st9);clear st9;refine Et ?_;go_wp2_with fail
 refine bT ?_;exact ap (L:=[]) HB.out.2 ⟨rfl,rfl,rfl⟩ kp
end
end Go.Proofs.YtbmklgemmjgjfaaGreat
