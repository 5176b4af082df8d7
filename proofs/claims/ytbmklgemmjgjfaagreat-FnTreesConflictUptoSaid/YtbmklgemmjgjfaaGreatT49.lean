/- Part 49: Hst, Lst. -/
import Derived.Test.YtbmklgemmjgjfaaGreatT47
import Derived.Test.YtbmklgemmjgjfaaGreatT48
namespace Go.Proofs.YtbmklgemmjgjfaaGreat
open Go.RowKit Go.Maps Tryz
set_option linter.unusedVariables false
set_option linter.unusedSimpArgs false
set_option maxRecDepth 100000
set_option maxHeartbeats 16000000
variable{J:Gh}
section
variable{ok:Bool}{a:A10}{tb ct mn mc sb c:Nat}{ma:OA}{x0 x1:V6}
theorem z0u{P:Prop}(h:P:=by
 go_enter func37,ntmps37;go_wp2_with (first|refine wk ?_|refine wB ?_;clear S;intro _ W S|refine wA ?_;clear S;intro z W S|refine Ws ?_;clear S;intro W S)
 exact e0i):P:=h
theorem liveT_s:Ac 37 #[.agg (L0d tb ct nmDe x0 ma mn mc).toArray,.agg #[.bool ok,.slice a.ca a.cn a.cc,.bool true,.int .i64 a.x.k,.int .i64 a.x.n,.float .f64 a.x.f,.string a.x.s,.slice a.x.a1 a.x.n1 a.x.c1,.slice a.x.a2 a.x.n2 a.x.c2,.slice a.ma a.mn a.mc]] J [] [] fun u K L' R'=>K=J/\L'=[]/\R'=[]/\u=.agg (L0a a.x).toArray:=by
 intro M I w W S;exact z0u
theorem liveF_s:Ac 37 #[.agg (L0d tb ct nmDe x0 ma mn mc).toArray,.agg #[.bool ok,.slice a.ca a.cn a.cc,.bool false,.int .i64 a.x.k,.int .i64 a.x.n,.float .f64 a.x.f,.string a.x.s,.slice a.x.a1 a.x.n1 a.x.c1,.slice a.x.a2 a.x.n2 a.x.c2,.slice a.ma a.mn a.mc]] J [] [] fun u K L' R'=>K=J/\L'=[]/\R'=[]/\u=.agg (L0a x0).toArray:=by
 intro M I w W S;exact z0u
theorem after_s:Ac 22 #[.agg (L0d tb ct nmDe x0 ma mn mc).toArray,.agg (L0n a.ca a.cn a.cc a.x a.ma a.mn a.mc).toArray] J [] [] fun u K L' R'=>K=J/\L'=[]/\R'=[]/\u=.agg (L0d tb ct nmDe a.x a.ma a.mn a.mc).toArray:=by
 intro M I w W S;go_enter func22,ntmps22;go_wp2_with (first|refine wk ?_|refine wB ?_;clear S;(first|(fail_if_success revert y1);intro y1 W S|intro y2 W S)|refine wA ?_;clear S;intro z W S)
 refine Rg S [(y2,L0n a.ca a.cn a.cc a.x a.ma a.mn a.mc,.t 47)] [] [] [1,3,4] 6 fun W S=>?_;refine Zw [] 5 0 ?_;intro KK hKK;refine X4q (v:=.agg (L0d tb ct nmDe x0 ma mn mc).toArray) S rfl rfl ?_;refine Yw [5] 3 2 ?_;intro KK hKK;go_simp;refine Q0a S (liveT_s (J:=J) (a:=a) (tb:=tb) (ct:=ct) (x0:=x0) (ma:=ma) (mn:=mn) (mc:=mc)) ?_;clear S;rintro r5 K5 L5 R5 W' hle5 ⟨hKJ,rfl,rfl,rfl⟩ S;have hJK:=hKJ.symm;subst hJK;replace S:=sa S;refine Tw [7] 1 6 ?_;intro KK hKK;refine Q0y (sub:=(L0a a.x)) S rfl rfl rfl rf ?_;clear S;intro W S;refine Tw [] 0 8 ?_;intro KK hKK;refine Q0y (sub:=[.slice a.ma a.mn a.mc]) S rfl rfl rfl rf ?_;clear S;intro W S;refine Ey ?_;go_wp2_with (first|refine wk ?_|refine Ws ?_;clear S;intro W S)
 exact e0i

variable{v wf:BA}{X1:IV}
theorem hist_s(hs:ISch J tb)(hx0:VIs J x0 (Tr.map []).iv)(hx1:VIs J x1 X1)(hp:ApiH (Tr.map []).iv X1 wf v [])(hst:∀(i:Nat) u,((L1l wf v x1):List Value)[i]?=some u->J.cell (ad sb (0+i)) u)(hok:∀r,Q5x (.map []) X1.tr wf false (fun _=>none) r->r.ok=true/\r.ch=true):
  Ac 21 #[.agg (L0j tb nmDe x0).toArray,.slice (some (ad sb 0)) 1 c] J [] []<|N0 fun u K=>∃(g c':Nat) (a:A10) (r:An),u=.slice (some (ad g 0)) 1 c'/\(∀(i:Nat) u,((L0n a.ca a.cn a.cc a.x a.ma a.mn a.mc):List Value)[i]?=some u->K.cell (ad g (0+i)) u)/\AnIs K v a r/\Q5x (.map []) X1.tr wf false (fun _=>none) r:=by
 intro M I w W S;have HT:=Hd (nd5 hs hx0 hx1 hp hok);have HC:=Hd hst;clear hs hx0 hx1 hp hst hok;go_enter func21,ntmps21;replace S:=Hd (S.out.nilrow 47 10);go_wp2_with (first|refine wk ?_|refine wn ?_;clear S;intro _ W S)
 refine wp_loop_rounds 2 ?_;rw[rounds_succ];go_wp2_with (first|refine X9l (sub:=(L1l wf v x1)) rf rfl rfl rfl HC.out S.out.inw ?_|refine wk ?_|refine wn ?_;clear S;(first|(fail_if_success revert q1);intro q1 W S|intro q2 W S)|refine Ws ?_;clear S;intro W S)
 have hcall:=api_s (ct:=2) (force:=false) HT.out.1 HT.out.2.1 HT.out.2.2.1 (Q9d.nil J v) HT.out.2.2.2.1;refine Q0a S hcall ?_;clear hcall S;rintro r5 K5 L5 R5 W' hle5 ⟨rfl,rfl,a,r,rfl,ha,hr⟩ S;have hr':Q5x (.map []) X1.tr wf false (fun _=>none) r:=by have:=hr;rw[Q9k (.map [] List.Pairwise.nil (fun p h=>absurd h b0f))]at this;exact this
 have HA:=Hd (nd3 ha hr' hle5);obtain⟨e1,e2⟩:=HT.out.2.2.2.2 r hr';have e3:a.ok=true:=ha.ok.trans e1;have e4:a.ch=true:=ha.ch.trans e2;clear ha hr hr' e1 e2 hle5;unfold A10.agg;rw[e3,e4];clear e3 e4;replace S:=sa S;go_wp2_with (first|refine wk ?_|refine Ws ?_;clear S;intro W S|refine Q9a (sub:=(L0n a.ca a.cn a.cc a.x a.ma a.mn a.mc)) S rfl rfl underlying72 rfl ?_;clear S;intro z W S|refine Q7e S rfl rfl rfl rfl underlying72 in47 rf b0t ?_;clear S;intro A1 c1 W S)
 refine Rg S [(q2,L0n a.ca a.cn a.cc a.x a.ma a.mn a.mc,.t 47),(q1,L1l wf v x1,.t 86)] [] [] [0,1,2,3,4] 3 fun W S=>?_;refine Zw [6] 1 5 ?_;intro KK hKK;refine Q0y (sub:=(L0a a.x)) S rfl rfl rfl rf ?_;clear S;intro W S;refine Tw [] 0 7 ?_;intro KK hKK;refine Q0y (sub:=[.string v]) S rfl rfl rfl rf ?_;clear S;intro W S;refine Ey ?_;go_wp2_with fail
 rw[rounds_succ];go_wp2_with fail
 obtain⟨g,rfl⟩:=row_g S.out;obtain⟨K2,qa,qc,hle2,hv2,hn2,hm2,hf2,S3⟩:=S.out.rfreeze;have hf3:∀(i:Nat) u,((L0n a.ca a.cn a.cc a.x a.ma a.mn a.mc):List Value)[i]?=some u->K2.cell (ad g (0+i)) u:=fun i u hu=>by
  simp only[Value.slice.injEq]at hv2;obtain⟨rfl,_⟩:=hv2;rcases hf2 with⟨h,_⟩|⟨b,o,h,k⟩
  ·cases h
  ·cases h;exact k i u (by simpa using hu)
 refine bT ?_;exact ap (L:=[]) (gT HA.out.2.2 hle2) ⟨rfl,rfl,g,_,a,r,rfl,hf3,HA.out.1.mono hle2,HA.out.2.1⟩ (show St _ _ _ _ _ _ _ from keep (Hd S3))
theorem run_s(hs:ISch J tb)(hx0:VIs J x0 (Tr.map []).iv)(hx1:VIs J x1 X1)(hp:ApiH (Tr.map []).iv X1 wf v [])(hst:∀(i:Nat) u,((L1l wf v x1):List Value)[i]?=some u->J.cell (ad sb (0+i)) u)(hok:∀r,Q5x (.map []) X1.tr wf false (fun _=>none) r->r.ok=true/\r.ch=true):
  Ac 30 #[.agg (L0j tb nmDe x0).toArray,.slice (some (ad sb 0)) 1 c] J [] []<|N0 fun u K=>∃(a:A10) (r:An),u=.tuple #[.agg (L0b tb nmDe a.x a.ma a.mn a.mc).toArray,.bool true]/\AnIs K v a r/\Q5x (.map []) X1.tr wf false (fun _=>none) r:=by
 intro M I w W S;have HT:=Hd (nd6 hs hx0 hx1 hp hst hok);clear hs hx0 hx1 hp hst hok;go_enter func30,ntmps30;go_wp2_with (first|refine wk ?_|refine wB ?_;clear S;intro _ W S|refine wA ?_;clear S;intro z W S)
 have hcall:=hist_s (c:=c) HT.out.1 HT.out.2.1 HT.out.2.2.1 HT.out.2.2.2.1 HT.out.2.2.2.2.1 HT.out.2.2.2.2.2;refine Q0a S hcall ?_;clear hcall S;rintro r5 K5 L5 R5 W' hle5 ⟨rfl,rfl,g,c',a,r,rfl,hg,ha,hr⟩ S;have HA:=Hd (nd3 ha hr hle5);have HG:=Hd hg;clear ha hr hle5 hg;replace S:=sa S;go_wp2_with (first|refine wk ?_|refine Ws ?_;clear S;intro W S)
 refine wp_loop_rounds 2 ?_;rw[rounds_succ];go_wp2_with (first|refine X9l (sub:=(L0n a.ca a.cn a.cc a.x a.ma a.mn a.mc)) rf rfl rfl rfl HG.out S.out.inw ?_|refine wk ?_|refine wn ?_;clear S;intro q1 W S|refine Ws ?_;clear S;intro W S)
 refine Q0a S (after_s (J:=K5) (a:=a) (tb:=tb) (ct:=2) (x0:=x0) (ma:=none) (mn:=0) (mc:=0)) ?_;clear S;rintro r6 K6 L6 R6 W' hle6 ⟨hKJ,rfl,rfl,rfl⟩ S;have hJK:=hKJ.symm;subst hJK;replace S:=sa S;go_wp2_with (first|refine wk ?_|refine Ws ?_;clear S;intro W S)
 rw[rounds_succ];go_wp2_with (first|refine wk ?_|refine Ws ?_;clear S;intro W S)
 refine bT ?_;exact ap (L:=[]) HA.out.2.2 ⟨rfl,rfl,a,r,rfl,HA.out.1,HA.out.2.1⟩ kp
end
section
theorem mgOf_s{v nm:BA}{u:Value}{ms:List Mgn}(hm:Q9d J v u ms)(hl:ms.length<2 ^ 30):Ac 12 #[u,.string nm] J [] [] fun r K L' R'=>K=J/\L'=[]/\R'=[]/\
  ((∃m∈ms,m.name=nm/\∃qa qc,r=.tuple #[.agg (L1y m.name v m.ap qa m.ps.length qc).toArray,.bool true]/\Q2i J (.slice qa m.ps.length qc) m.ps)\/((∀m∈ms,m.name≠nm)/\r=.tuple #[.agg L1x.toArray,.bool false])):=by
 intro M I w W S;obtain⟨A,c,xs,rfl,h1,h2,h3,h4,h5⟩:=hm;have HT:=Hd (nd4 h3 h4 h5 hl);clear h1 h2 h3 h4 h5 hl;go_enter func12,ntmps12;go_wp2_with (refine wn ?_;clear S;intro z W S)
 go_loopg [10] ms.length (fun g s10 wr=>∃(i:Nat) (T:List Blk),s10=.int .i64 (i:Nat)/\i<=ms.length/\g=ms.length -i/\Hid (St M I J w wr ((z,L1x,.t 57)::T) [])/\Hid (∀m∈ms.take i,m.name≠nm))
 case atStart=>exact⟨0,_,rfl,Nat.zero_le _,rfl,S,Hd (fun m h=>absurd h b0f)⟩
 case round=>
  clear S;obtain⟨i,T,rfl,hi1,hg,S,HW⟩:=hrel;by_cases hlt:i<ms.length
  ·obtain⟨⟨pv,m⟩,hx⟩:∃x,xs[i]?=some x:=gx b2m;have hmi:ms[i]?=some m:=by rw[<-HT.out.2.1,List.getElem?_map,hx];rfl
   have hpa:Q2i J pv m.ps:=HT.out.2.2.1 _ (List.mem_of_getElem? hx);have HPa:=Hd hpa;obtain⟨qa,qc,us,rfl,_,_,_,_⟩:=hpa;obtain⟨b2,o2,rfl,hX0⟩:=mg_at HT.out.1 hx;have hX:Hid (∀(j:Nat) u,((L1y m.name v m.ap qa m.ps.length qc):List Value)[j]?=some u->J.cell (ad b2 (o2+i*4+j)) u):=Hd hX0;have HX:=Hd (And.intro (Q1k hmi) (List.mem_of_getElem? hmi));have hN:i+1<2 ^ 32:=by have:=HT.out.2.2.2;omega
   clear hx hmi hX0;by_cases hn:m.name=nm
   ·have hq:(m.name.toList==nm.toList)=true:=by have:=Q6p m.name nm;unfold seq at this;rw[this,hn];simp
    have HNm:=Hd hn;clear hn;go_wp2_with (first|refine X9l (sub:=(L1y m.name v m.ap qa m.ps.length qc)) rf rfl rfl rfl hX.out S.out.inw ?_|refine wk ?_|refine Ws ?_;clear S;intro W S|refine wn ?_;clear S;intro q W S)
    refine bT ?_;exact ap (L:=[]) gR ⟨rfl,rfl,rfl,.inl ⟨m,HX.out.2,HNm.out,qa,qc,rfl,HPa.out⟩⟩ kp
   ·have hq:(m.name.toList==nm.toList)=false:=by have:=Q6p m.name nm;unfold seq at this;rw[this];simp[hn]
    have HNm:=Hd hn;clear hn;go_wp2_with (first|refine X9l (sub:=(L1y m.name v m.ap qa m.ps.length qc)) rf rfl rfl rfl hX.out S.out.inw ?_|refine wk ?_|refine Ws ?_;clear S;intro W S|refine wn ?_;clear S;intro q W S)
    go_roundg (ms.length -(i+1))
    case measure=>omega
    case rel=>exact⟨i+1,_,by simp,by omega,rfl,Hd (Lib.front S [(z,L1x,.t 57)] []).out,Hd (fun m' h=>by
     rw[HX.out.1]at h;rcases List.mem_append.1 h with h|h
     ·exact HW.out m' h
     ·rw[List.mem_singleton.1 h];exact HNm.out)⟩
  ·have hi2:i=ms.length:=by omega
   subst hi2;go_wp2_with (first|refine wk ?_|refine Ws ?_;clear S;intro W S)
   refine bT ?_;exact ap (L:=[]) gR ⟨rfl,rfl,rfl,.inr ⟨by have:=HW.out;rwa [List.take_length]at this,rfl⟩⟩ kp
def X0p(t:Tr):Bool:=X0s t&&X0i t
theorem z1a{P:Prop}(h:P:=by
 go_wp2_with fail
 refine bT ?_;exact ap (L:=[]) H6.out ⟨rfl,rfl,false,rfl,fun h=>(by cases h)⟩ kp):P:=h
theorem fullTs_s{sb:Nat}{n1 n2:BA}{x1 x2:V6}{X1 X2:IV}(h1:VIs J x1 X1)(h2:VIs J x2 X2)(b1:X1.bulk<2 ^ 30)(b2:X2.bulk<2 ^ 30)(hs1:∀(i:Nat) u,((L0l n1 x1):List Value)[i]?=some u->J.cell (ad sb (0+i)) u)(hs2:∀(i:Nat) u,((L0l n2 x2):List Value)[i]?=some u->J.cell (ad sb (10+i)) u):
  Ac 29 #[.slice (some (ad sb 0)) 2 2] J [] []<|N0 fun r K=>∃b,r=.bool b/\(b=true->X0p X1.tr=true/\X0p X2.tr=true/\Q2d X2.tr X1.tr=true):=by
 intro M I w W S;have HT:=Hd (nd4 h1 h2 b1 b2);have HC1:=Hd hs1;have HC2:=Hd hs2;clear h1 h2 b1 b2 hs1 hs2;have hc1:=Z3m HT.out.1 HT.out.2.2.1;have hc2:=Z3m HT.out.2.1 HT.out.2.2.2;go_enter func29,ntmps29;go_wp2_with fail
 refine wp_loop_rounds 3 ?_;rw[rounds_succ];go_wp2_with (first|refine X9l (sub:=(L0l n1 x1)) rf rfl rfl rfl HC1.out S.out.inw ?_|refine wk ?_|refine Ws ?_;clear S;intro W S|refine wn ?_;clear S;intro q1 W S)
 refine(hc1 _ S.out.inw).mono ?_;rintro e9 W' ⟨K5,rfl,st9⟩;have H5:=Hd st9.le;replace S:=Hd (S.out.call st9);clear st9 hc1;have hc2:=Z3m (HT.out.2.1.mono H5.out) HT.out.2.2.2;cases hb1:X0s X1.tr&&X0i X1.tr with
 |false=>
  go_wp2_with fail
  refine bT ?_;exact ap (L:=[]) H5.out ⟨rfl,rfl,false,rfl,fun h=>(by cases h)⟩ kp
 |true=>
  go_wp2_with (first|refine wk ?_|refine Ws ?_;clear S;intro W S)
  refine wp_loop_rounds 1 ?_;rw[rounds_succ];go_wp2_with fail
  rw[rounds_succ];have HD2:=Hd (fun(i:Nat) u h=>(HC2.out i u h).mono H5.out);go_wp2_with (first|refine X9l (sub:=(L0l n2 x2)) rf rfl rfl rfl HD2.out S.out.inw ?_|refine wk ?_|refine Ws ?_;clear S;intro W S|refine wn ?_;clear S;intro q2 W S)
  refine(hc2 _ S.out.inw).mono ?_;rintro e9 W' ⟨K6,rfl,st9⟩;have H6:=Hd (gT H5.out st9.le);replace S:=Hd (S.out.call st9);clear st9 hc2;cases hb2:X0s X2.tr&&X0i X2.tr with
  |false=>
   exact z1a
  |true=>
   go_wp2_with (first|refine wk ?_|refine Ws ?_;clear S;intro W S)
   refine wp_loop_rounds 2 ?_;rw[rounds_succ];have HD1:=Hd (fun(i:Nat) u h=>(HC1.out i u h).mono H6.out);go_wp2_with (first|refine X9l (sub:=(L0l n1 x1)) rf rfl rfl rfl HD1.out S.out.inw ?_|refine wk ?_|refine Ws ?_;clear S;intro W S|refine wn ?_;clear S;intro q3 W S)
   have ha:=alike_x (HT.out.2.1.mono H6.out) (HT.out.1.mono H6.out) (by have:=HT.out.2.2.2;omega) (by have:=HT.out.2.2.1;omega);refine(ha _ S.out.inw).mono ?_;rintro e9 W' ⟨rfl,st9⟩;replace S:=Hd (S.out.call st9);clear st9 ha;cases hal:Q2d X2.tr X1.tr with
   |false=>
    exact z1a
   |true=>
    go_wp2_with fail
    rw[rounds_succ];go_wp2_with fail
    rw[rounds_succ];go_wp2_with fail
    refine bT ?_;exact ap (L:=[]) H6.out ⟨rfl,rfl,true,rfl,fun _=>⟨hb1,hb2,hal⟩⟩ kp
end
end Go.Proofs.YtbmklgemmjgjfaaGreat
