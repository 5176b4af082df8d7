/- Part 21: Plc, Bsf, Jon. -/
import Derived.OpenShut
import Derived.Deep.Strs
import Derived.Test.YtbmklgemmjgjfaaGreatT18
namespace Go.Proofs.YtbmklgemmjgjfaaGreat
open List (getElem?_map map_nil mem_of_getElem? take_length)
open Go.RowKit Go.Maps Tryz
set_option linter.unusedVariables false
set_option linter.unusedSimpArgs false
set_option maxRecDepth 100000
set_option maxHeartbeats 4000000
variable{w W:World}{I:Gh}{i:Nat}
section
def Z2u(ps:List (List PE)):Prop:=∀q∈ps,q.length<=2 ^ 30/\∀k∈q,ByteArray.size k<=maxLen
theorem Z3q{A:OA}{vs:List Value}{ps:List (List PE)}(h:Q2f w A vs)(ha:All2 (Q2l I) vs ps){i:Nat}{q:List PE}(hq:ps[i]?=some q):∃b o qa qc,A=some ⟨b,o,none⟩/\w.cell? ⟨b,o+i,none⟩=some (.slice qa q.length qc)/\Q0u I qa (q.flatMap Q0s):=by
 have hl:=ha.length;have hi:i<vs.length:=by rw[hl];exact(List.getElem?_eq_some_iff.1 hq).1
 have hv:vs[i]?=some vs[i]:=List.getElem?_eq_getElem hi;obtain⟨qa,qc,e,_,_,hf⟩:=ha.get hv hq;rw[e]at hv;obtain⟨b,o,e1,hc⟩:=h.get hv;exact⟨b,o,qa,qc,e1,hc,hf⟩
theorem place_x(I:Gh)(A:OA)(N c:Nat)(vs:List Value)(ps:List (List PE))(w0:World)(hrow:Q2f w0 A vs)(ha:All2 (Q2l I) vs ps)(hN:N=ps.length)(hb:N<=2 ^ 30)(hsm:Z2u ps)(hws:WS ps)
  (p:List PE)(pa:OA)(pc:Nat)(hp:Q0u I pa (p.flatMap Q0s))(hpl:p.length<=2 ^ 30)(hpz:∀k∈p,ByteArray.size k<=maxLen)(hi:I.In w0):
  Calls prog 63 #[.slice A N c,.slice pa p.length pc] w0 (Got Nix I w0 (.tuple #[.int .i64 (lowW ps p:Nat),.bool (decide (ps[lowW ps p]?=some p))])):=by
 have HF:=Hd (And.intro hp hpz);have HA:=Hd (nd5 hrow ha hsm hws hN);clear hp hpz hrow ha hsm hws hN;refine Q0c (M:=Nix) hi ?_;intro W S;go_enter func63,ntmps63;go_wp2_with (first|refine wk ?_|refine Ws ?_;clear S;intro W S|refine wn ?_;clear S;intro _ W S)
 go_loopg [6,7,8] N (fun g s6 s7 s8 wr=>∃lo hi:Nat,s6=.int .i64 lo/\s7=.int .i64 hi/\lo<=hi/\hi<=N/\g=hi -lo/\Hid (St Nix I I w0 wr [] [])/\Hid (∀(j:Nat) x,ps[j]?=some x->(j<lo->wlt x p=true)/\(hi<=j->wlt x p=false)))
 case atStart=>exact⟨0,N,rfl,rfl,Nat.zero_le _,Nat.le_refl _,rfl,S,fun j x h=>⟨fun h=>absurd h om,fun h2=>absurd (List.getElem?_eq_some_iff.1 h).1 b1v⟩⟩
 case round=>
  clear S;obtain⟨lo,hi',rfl,rfl,h1,h2,hg,S,hh⟩:=hrel;by_cases hlt:lo<hi'
  ·obtain⟨q,hq⟩:∃q,ps[lo+(hi' -lo) / 2]?=some q:=gx b1v;obtain⟨b,o,qa,qc,rfl,hc0,hqf⟩:=Z3q (HA.out.1.step0 S.out.step) HA.out.2.1 hq;have hqb:=HA.out.2.2.1 q (mem_of_getElem? hq);have hcell:=hc0;have hml:lo+(hi' -lo) / 2<hi':=by omega
   have HX:=Hd hq;have hmw:((lo:Int)+((hi' -lo:Nat):Int) / 2)=((lo+(hi' -lo) / 2:Nat):Int):=by omega
   have hmw':=Hd hmw;have HG:=Hd hg;have HQ:=Hd hqf;have HQB:=Hd hqb;clear hq hg hmw hc0 hqf hqb;cases hb:wlt q p with
   |true=>
    have hbl:wcmp q p<0:=wcmp_lt.2 hb;have HB:=Hd hb;clear hb;go_wp2_with (first|refine Q5f rf rf rf hcell kr ?_|go_at_call 119;refine got S (Q6c I q p qa pa qc pc HQ.out HF.out.1 HQB.out.1 hpl HQB.out.2 HF.out.2) ?_;clear S;intro W S|refine wk ?_|refine Ws ?_;clear S;intro W S|refine wn ?_;clear S;intro _ W S)
    go_roundg (hi' -(lo+(hi' -lo) / 2+1))
    case measure=>have:=HG.out;omega
    case rel=>
     refine⟨lo+(hi' -lo) / 2+1,hi',?_,rfl,by omega,h2,rfl,S,Hd fun j y hy=>⟨fun hj=>?_,fun hj=>(hh.out j y hy).2 hj⟩⟩
     ·have:=hmw'.out;congr 1;omega
     ·by_cases e:j=lo+(hi' -lo) / 2
      ·subst e;rw[HX.out]at hy;cases hy;exact HB.out
      ·exact Q8d (Z2o HA.out.2.2.2.1 (show j<lo+(hi' -lo) / 2 by omega) hy HX.out) HB.out
   |false=>
    have hbl:¬(wcmp q p<0):=fun e=>by rw[wcmp_lt.1 e]at hb;cases hb
    have HB:=Hd hb;clear hb;go_wp2_with (first|refine Q5f rf rf rf hcell kr ?_|go_at_call 119;refine got S (Q6c I q p qa pa qc pc HQ.out HF.out.1 HQB.out.1 hpl HQB.out.2 HF.out.2) ?_;clear S;intro W S|refine wk ?_|refine Ws ?_;clear S;intro W S|refine wn ?_;clear S;intro _ W S)
    go_roundg (lo+(hi' -lo) / 2 -lo)
    case measure=>have:=HG.out;omega
    case rel=>
     refine⟨lo,lo+(hi' -lo) / 2,rfl,?_,by omega,by omega,rfl,S,Hd fun j y hy=>⟨fun hj=>(hh.out j y hy).1 hj,fun hj=>?_⟩⟩
     ·have:=hmw'.out;congr 1;omega
     ·by_cases e:j=lo+(hi' -lo) / 2
      ·subst e;rw[HX.out]at hy;cases hy;exact HB.out
      ·have h1:=Z2o HA.out.2.2.2.1 (show lo+(hi' -lo) / 2<j by omega) HX.out hy;cases h2:wlt y p with
       |false=>rfl
       |true=>have:=Q8d h1 h2;rw[HB.out]at this;cases this
  ·obtain rfl:lo=hi':=by omega
   clear hg;have hlow:lo=lowW ps p:=lowW_uniq HA.out.2.2.2.1 b1v (fun j x hx hj=>(hh.out j x hx).1 hj) (fun j x hx hj=>by rw[(hh.out j x hx).2 hj];exact Bool.false_ne_true);have HLW:=Hd hlow;clear hlow;by_cases hl:lo<N
   ·obtain⟨q,hq⟩:∃q,ps[lo]?=some q:=gx b1v;obtain⟨b,o,qa,qc,rfl,hc0,hqf⟩:=Z3q (HA.out.1.step0 S.out.step) HA.out.2.1 hq;have hcell:=hc0;have HX:=Hd hq;have HQ:=Hd hqf;have HQB:=Hd (HA.out.2.2.1 q (mem_of_getElem? hq));have hd:decide ((lo:Int)<(N:Int))=true:=by simp;omega
    clear hq hc0 hqf;go_wp2_with (first|refine Q5f rf rf rf hcell kr ?_|go_at_call 119;refine got S (Q6c I q p qa pa qc pc HQ.out HF.out.1 HQB.out.1 hpl HQB.out.2 HF.out.2) ?_;clear S;intro W S|refine wk ?_|refine Ws ?_;clear S;intro W S|refine wn ?_;clear S;intro _ W S)
    go_ret2;refine⟨?_,S.out.step⟩;have e1:decide (wcmp q p=0)=decide (ps[lowW ps p]?=some p):=by
     rw[<-HLW.out,HX.out];exact decide_eq_decide.2 (wcmp_eq.trans ⟨fun e=>by rw[e],fun e=>Option.some.inj e⟩)
    rw[<-e1,<-HLW.out];rfl
   ·have hd:decide ((lo:Int)<(N:Int))=false:=by simp;omega
    go_wp2_with (first|refine Q5f rf rf rf hcell kr ?_|go_at_call 119;refine got S (Q6c I q p qa pa qc pc HQ.out HF.out.1 HQB.out.1 hpl HQB.out.2 HF.out.2) ?_;clear S;intro W S|refine wk ?_|refine Ws ?_;clear S;intro W S|refine wn ?_;clear S;intro _ W S)
    go_ret2;refine⟨?_,S.out.step⟩;have e1:decide (ps[lowW ps p]?=some p)=false:=by
     rw[<-HLW.out,List.getElem?_eq_none b1v];rfl
    rw[e1,<-HLW.out];rfl
theorem wl_make{P:Program}{M:Nat->Prop}{J:Gh}{L:List Blk}{R:List Rw}{ops:Array Oper}{rest:List Oper}{o:Oper}{a:Act}{Q:EAW}{t e:TypeId}{l c:Operand}{z:Value}{n y m:Nat}{kl kc:IntKind}{C:Int}
  (S:Hid (St M I J w W L R))(hg:o.guard=none)(ho:o.op=Op.makeSlice t l c)(ht:P.underlying t=some (.slice e))(hi:Inf P e z n y)(hl:a.eval l=.int kl 0)(hc:a.eval c=.int kc C)(hC:C=(m:Int))(h2:y*m<=281474976710656)(h3:m<=maxLen)
  (h:∀b W',Hid (St M I J w W' L (⟨.slice (some ⟨b,0,none⟩) 0 m,e,n,0,[]⟩::R))->wpList P ops Q rest (a.put o.dst (.slice (some ⟨b,0,none⟩) 0 m)) W'):wpList P ops Q (o::rest) a W:=by
 obtain⟨i,g1,g2,g3,g4⟩:=hi.parts;exact wpList_make_own W hg l c t ho 0 e i z n ht g1 g2 g3 kl kc C m hl hc hC (by rw[g4];exact h2) h3 (Nat.zero_le _) fun w' k1 k2=>h _ w' (S.out.made k1 k2 fun g hg=>by cases hg;rfl)
theorem elem11s{b o:Nat}{x:PE}(h:∀(j:Nat) v,(Q0s x)[j]?=some v->I.cell ⟨b,o+j,none⟩ v)(hi:I.In W):∀(j:Nat) v,((L0i x).toArray).toList[j]?=some v->W.cell? ⟨b,o+j,none⟩=some v:=fun j v hv=>(h j v hv).at hi
theorem Z6p(I:Gh)(p:List PE)(pa:OA)(pc:Nat)(hp:Q0u I pa (p.flatMap Q0s))(hpl:p.length<=2 ^ 30)(w:World)(hi:I.In w):
  Calls prog 64 #[.slice pa p.length pc] w fun e w'=>∃(r:Value) (K:Gh),e=.returned r/\Step Nix I K w w'/\Q2l K r p:=by
 have HF:=Hd hp;clear hp;refine Q0c (M:=Nix) hi ?_;intro W S;go_enter func64,ntmps64;go_wp2_with (refine wl_make (t:=79) (e:=173) S rf rf underlying79 Z7c rf rf rf om b0q ?_;clear S;(try clear W);intro bm W S)
 go_loopg [3,5,11] p.length (fun g s3 s5 s11 wr=>∃(i:Nat) (A:OA) (N c:Nat),s3=.slice A N c/\s11=.int .i64 (i:Nat)/\i<=p.length/\g=p.length -i/\Hid (St Nix I I w wr [] [⟨.slice A N c,173,11,N,(p.take i).flatMap Q0s⟩]))
 case atStart=>exact⟨0,_,_,_,rfl,rfl,Nat.zero_le _,rfl,S⟩
 case round=>
  clear S;obtain⟨i,A,N,c,rfl,rfl,hil,hg,S⟩:=hrel;have hN:N<=2 ^ 30:=by
   have e1:=(S.out.row .head).1;have e2:=Z2a Q3n (p.take i);simp only[List.length_take]at e1 e2;omega
  by_cases hlt:i<p.length
  ·obtain⟨x,hx⟩:∃x,p[i]?=some x:=gx hlt;obtain⟨b,o,rfl,e1⟩:=Z3i HF.out hx;have hcells:=elem11s e1 S.out.inw;have HX:=Hd hx;clear e1 hx;go_wp2_with (first|refine Q7z rf 173 _ rf b (o+i*11) rf (L0i x).toArray _ underlying173 rfl sz173 hcells ?_|go_at_call 120;refine got S (X6l I _) ?_;clear S;intro W S;unfold Q4p|refine wl_app S rf _ rf rf rf (fun r=>[r]) (fun _=>.head) underlying79 Z7c rfl b0t (St.reads S.out b0a 1 11 rfl) (Z8r (p:=[x])) b0q om ?_;clear S;(try clear W);intro A2 N2 c2 W hN2 S|refine wk ?_|refine Ws ?_;clear S;intro W S|refine wn ?_;clear S;intro _ W S)
   go_roundg (p.length -(i+1))
   case measure=>omega
   case rel=>
    refine⟨i+1,A2,N2,c2,rfl,rfl,hlt,rfl,?_⟩;have e:(p.take (i+1)).flatMap Q0s=(p.take i).flatMap Q0s++Q0s x:=by rw[List.take_add_one,HX.out];simp
    rw[e];exact S.out.pop.pop
  ·have e1:i=p.length:=by omega
   subst e1;go_wp2_with (first|refine wk ?_|refine Ws ?_;clear S;intro W S|refine wn ?_;clear S;intro _ W S)
   go_ret;obtain⟨K,a,c',hle,hv,g1,g2,hf,S4⟩:=S.out.rfreeze;have e2:=(S.out.row .head).1;simp only[take_length]at hf e2;have e1:N=p.length:=by rw[Z2a Q3n p]at e2;omega
   exact⟨_,K,rfl,S4.step,a,c',by rw[<-e1];exact hv,by rw[<-e1];exact g1,g2,hf⟩
theorem listed_x(I:Gh)(ra rb:Value)(ps qs:List (List PE))(hp:Q2i I ra ps)(hq:Q2i I rb qs)(hps:Z2u ps)(hqs:Z2u qs)(hpl:ps.length<=2 ^ 30)(hql:qs.length<=2 ^ 30)(w:World)(hi:I.In w):
  Calls prog 65 #[ra,rb] w (Got Nix I w (.bool (decide (ps=qs)))):=by
 obtain⟨a1,c1,vs1,rfl,_,_,hf1,ha1⟩:=hp;obtain⟨a2,c2,vs2,rfl,_,_,hf2,ha2⟩:=hq;have HA:=Hd (nd6 (Q2f.flat hf1 hi) ha1 (Q2f.flat hf2 hi) ha2 hps hqs);clear hf1 ha1 hf2 ha2 hps hqs;refine Q0c (M:=Nix) hi ?_;intro W S;go_enter func65,ntmps65;by_cases hlen:ps.length=qs.length
 ·have hi1:((ps.length:Int) != (qs.length:Int))=false:=by rw[hlen];simp
  have HL:=Hd hlen;clear hlen;go_wp2_with (first|refine wk ?_|refine Ws ?_;clear S;intro W S|refine wn ?_;clear S;(first|(fail_if_success revert b0);intro b0 W S|(fail_if_success revert b1);intro b1 W S|(fail_if_success revert b2);intro b2 W S|intro _ W S))
  go_loopg [5,13] ps.length (fun g s5 s13 wr=>∃i:Nat,s13=.int .i64 (i:Nat)/\i<=ps.length/\g=ps.length -i/\Hid (St Nix I I w wr [] [])/\Hid (ps.take i=qs.take i))
  case atStart=>exact⟨0,rfl,Nat.zero_le _,rfl,S,rfl⟩
  case round=>
   clear S;obtain⟨i,rfl,hib,hg,S,H⟩:=hrel;by_cases h1:i<ps.length
   ·have h2:i<qs.length:=by have:=HL.out;omega
    obtain⟨x,hx⟩:∃x,ps[i]?=some x:=gx h1;obtain⟨y,hy⟩:∃y,qs[i]?=some y:=gx h2;obtain⟨b1,o1,xa,xc,rfl,e1,f1⟩:=Z3q (HA.out.1.step0 S.out.step) HA.out.2.1 hx;obtain⟨b2,o2,ya,yc,rfl,e2,f2⟩:=Z3q (HA.out.2.2.1.step0 S.out.step) HA.out.2.2.2.1 hy;have HH:=Hd (And.intro hx hy);have HFF:=Hd (nd4 f1 f2 (HA.out.2.2.2.2.1 x (mem_of_getElem? hx)) (HA.out.2.2.2.2.2 y (mem_of_getElem? hy)));clear hx hy f1 f2;go_wp2_with (first|refine wk ?_|refine Ws ?_;clear S;intro W S|refine wn ?_;clear S;(first|(fail_if_success revert b0);intro b0 W S|(fail_if_success revert b1);intro b1 W S|(fail_if_success revert b2);intro b2 W S|intro _ W S))
    go_region_held3 (fun W=>W.cell? ⟨b1,o1+i,none⟩=some (.slice xa x.length xc)/\W.cell? ⟨b2,o2+i,none⟩=some (.slice ya y.length yc)) (first|exact⟨e1,e2⟩|exact⟨e1',e2'⟩|go_keep) (first|(go_at_call 79;refine Q4a b0j ?_;clear S;intro S;refine(X3k I x y _ _ _ _ HFF.out.1 HFF.out.2.1 HFF.out.2.2.1.1 HFF.out.2.2.2.1 _ S.out.inw).mono ?_;rintro e W ⟨rfl,st⟩;have e1':=st.cell e1 (fun x=>x);have e2':=st.cell e2 (fun x=>x);replace S:=Hd (S.out.call st);clear st));by_cases hxy:x=y
    ·rw[decide_eq_true hxy];go_wp2_with fail
     go_roundg (ps.length -(i+1))
     case measure=>omega
     case rel=>
      refine⟨i+1,rfl,h1,rfl,S,?_⟩;show ps.take (i+1)=qs.take (i+1);rw[List.take_add_one,List.take_add_one,HH.out.1,HH.out.2,hxy,H.out]
    ·have h0:¬(ps=qs):=fun e=>hxy (by
      have h3:ps[i]?=qs[i]?:=by rw[e]
      rw[HH.out.1,HH.out.2]at h3;exact Option.some.inj h3)
     rw[decide_eq_false hxy];go_wp2_with fail
     exact e1a
   ·have e1:i=ps.length:=by omega
    subst e1;go_wp2_with (first|refine wk ?_|refine Ws ?_;clear S;intro W S|refine wn ?_;clear S;(first|(fail_if_success revert b0);intro b0 W S|(fail_if_success revert b1);intro b1 W S|(fail_if_success revert b2);intro b2 W S|intro _ W S))
    go_ret;have H2:=H.out;rw[take_length,HL.out,take_length]at H2;exact⟨by rw[decide_eq_true H2];rfl,S.out.step⟩
 ·have h0:¬(ps=qs):=fun e=>hlen (by rw[e]);have hi1:((ps.length:Int) != (qs.length:Int))=true:=by simp;omega
  go_wp2_with (first|refine wk ?_|refine Ws ?_;clear S;intro W S|refine wn ?_;clear S;(first|(fail_if_success revert b0);intro b0 W S|(fail_if_success revert b1);intro b1 W S|(fail_if_success revert b2);intro b2 W S|intro _ W S))
  exact e1a
end
section
theorem Q3x{α:Type}{f:α->List Value}{k:Nat}:∀{l:List α},(∀x,(f x).length=k)->∀{i j:Nat} {x:α} {v:Value},l[i]?=some x->(f x)[j]?=some v->(l.flatMap f)[i*k+j]?=some v
 |[],_,_,_,_,_,h,_=>by simp at h
 |a::l,hk,i,j,x,v,h,hv=>by
  rw[List.flatMap_cons];cases i with
  |zero=>
   simp at h;subst h;have:j<(f a).length:=(List.getElem?_eq_some_iff.1 hv).1;rw[Nat.zero_mul,Nat.zero_add,List.getElem?_append_left this];exact hv
  |succ i=>
   have ih:=Q3x (l:=l) hk (i:=i) b0b hv;rw[List.getElem?_append_right (by rw[hk];rw[Nat.succ_mul];omega),hk];rw[show(i+1)*k+j -k=i*k+j by rw[Nat.succ_mul];omega];exact ih
abbrev PeAt(W:World)(b o x:Nat):Prop:=(W.cell? ⟨b,o,none⟩=some (pt x)/\W.cell? ⟨b,o+1,none⟩=some (pn)/\W.cell? ⟨b,o+2,none⟩=some (pn)/\W.cell? ⟨b,o+3,none⟩=some (pn))
abbrev NdAt(W:World)(b o:Nat)(n:Nat×Nat):Prop:=(W.cell? ⟨b,o,none⟩=some (.pointer (some ⟨n.1,0,none⟩))/\W.cell? ⟨b,o+1,none⟩=some (pn)/\W.cell? ⟨b,o+2,none⟩=some (pn)/\W.cell? ⟨b,o+3,none⟩=some (pn)/\W.cell? ⟨b,o+4,none⟩=some (.pointer (some ⟨n.2,0,none⟩)))
variable{b o x:Nat}{J:Gh}
theorem PeAt.step(h:PeAt w b o x)(st:Step Nix I J w W):PeAt W b o x:=⟨st.cell h.1 (fun x=>x),st.cell h.2.1 (fun x=>x),st.cell h.2.2.1 (fun x=>x),st.cell h.2.2.2 (fun x=>x)⟩
variable{n:Nat×Nat}
theorem NdAt.step(h:NdAt w b o n)(st:Step Nix I J w W):NdAt W b o n:=⟨st.cell h.1 (fun x=>x),st.cell h.2.1 (fun x=>x),st.cell h.2.2.1 (fun x=>x),st.cell h.2.2.2.1 (fun x=>x),st.cell h.2.2.2.2 (fun x=>x)⟩
variable{A:OA}
theorem Q2f.pe{bs:List Nat}(h:Q2f w A (bs.flatMap Q0i))(hx:bs[i]?=some x):∃b o,A=some ⟨b,o,none⟩/\PeAt w b (o+i*4) x:=by
 have g:∀j v,(Q0i x)[j]?=some v->(bs.flatMap Q0i)[i*4+j]?=some v:=fun j v hv=>Q3x (fun x=>Q3l x) hx hv;rcases h with e|⟨b,o,e,h⟩
 ·exact e1f
 ·refine⟨b,o,e,?_⟩;have k:∀j v,(Q0i x)[j]?=some v->w.cell? ⟨b,o+i*4+j,none⟩=some v:=fun j v hv=>by rw[Nat.add_assoc];exact h _ _ (g j v hv)
  exact⟨k 0 _ rfl,k 1 _ rfl,k 2 _ rfl,k 3 _ rfl⟩
theorem Q2f.nd{ns:List (Nat×Nat)}(h:Q2f w A (ns.flatMap Q2p))(hx:ns[i]?=some n):∃b o,A=some ⟨b,o,none⟩/\NdAt w b (o+i*5) n:=by
 have g:∀j v,(Q2p n)[j]?=some v->(ns.flatMap Q2p)[i*5+j]?=some v:=fun j v hv=>Q3x (fun x=>Q6m x) hx hv;rcases h with e|⟨b,o,e,h⟩
 ·exact e1f
 ·refine⟨b,o,e,?_⟩;have k:∀j v,(Q2p n)[j]?=some v->w.cell? ⟨b,o+i*5+j,none⟩=some v:=fun j v hv=>by rw[Nat.add_assoc];exact h _ _ (g j v hv)
  exact⟨k 0 _ rfl,k 1 _ rfl,k 2 _ rfl,k 3 _ rfl,k 4 _ rfl⟩
theorem z0c{P:Prop}(h:P:=by
 go_wp2_with (first|refine wk ?_|refine Ws ?_;clear S;intro W S|refine wn ?_;clear S;(first|(fail_if_success revert b0);intro b0 W S|intro _ W S))
 go_roundg (((lo+hi') / 2) -lo)
 case measure=>have:=HG.out;omega
 case rel=>
  refine⟨lo,((lo+hi') / 2),rfl,rfl,by omega,by omega,rfl,S,Hd fun j y hy=>⟨fun hj=>(hh.out j y hy).1 hj,fun hj=>?_⟩⟩;by_cases e:j=((lo+hi') / 2)
  ·rw[e,HX.out.1]at hy;cases hy;exact HB.out
  ·have h1:=Z2o HA.out.2.2.1 (show((lo+hi') / 2)<j by omega) HX.out.1 hy;cases h2:plt y k with
   |false=>rfl
   |true=>have:=Q3y h1 h2;rw[HB.out]at this;cases this):P:=h
theorem z0d{P:Prop}(h:P:=by
 have hd:decide ((lo:Int)<(N:Int))=false:=by simp;omega
 go_wp2_with (first|refine wk ?_|refine Ws ?_;clear S;intro W S|refine wn ?_;clear S;(first|(fail_if_success revert b0);intro b0 W S|intro _ W S))
 go_quiet (fail);go_wp2_with (first|refine wk ?_|refine Ws ?_;clear S;intro W S|refine wn ?_;clear S;(first|(fail_if_success revert b0);intro b0 W S|intro _ W S))
 go_ret2;refine⟨?_,S.out.step.drewN _⟩;have e1:decide (es[lowP es k]?=some k)=false:=by
  rw[<-HLW.out,List.getElem?_eq_none b0w];rfl
 rw[e1,<-HLW.out];rfl):P:=h
theorem z0e{P:Prop}(h:P:=by
 go_wp2_with (first|refine wk ?_|refine Ws ?_;clear S;intro W S|refine wn ?_;clear S;(first|(fail_if_success revert b0);intro b0 W S|intro _ W S))
 go_roundg (hi' -(((lo+hi') / 2)+1))
 case measure=>have:=HG.out;omega
 case rel=>
  refine⟨((lo+hi') / 2)+1,hi',rfl,rfl,by omega,h2,rfl,S,Hd fun j y hy=>⟨fun hj=>?_,fun hj=>(hh.out j y hy).2 hj⟩⟩;by_cases e:j=((lo+hi') / 2)
  ·rw[e,HX.out.1]at hy;cases hy;exact HB.out
  ·exact Q3y (Z2o HA.out.2.2.1 (show j<((lo+hi') / 2) by omega) hy HX.out.1) HB.out):P:=h
theorem z0f{P:Prop}(h:P:=by
 go_wp2_with (first|refine wk ?_|refine Ws ?_;clear S;intro W S|refine wn ?_;clear S;(first|(fail_if_success revert b0);intro b0 W S|intro _ W S))
 go_ret2;refine⟨?_,S.out.step⟩;have e1:decide (scmp q k=0)=decide (es[lowP es k]?=some k):=by
  rw[<-HLW.out,HX.out.1];exact decide_eq_decide.2 (X5n.trans ⟨fun e=>by rw[e],fun e=>Option.some.inj e⟩)
 rw[<-e1,<-HLW.out];rfl):P:=h
theorem searchPe_x(I:Gh)(A:OA)(N c:Nat)(bs:List Nat)(es:List PE)(w0:World)(hrow:Q2f w0 A (bs.flatMap Q0i))(ha:All2 (Nm I) bs es)(hN:N=es.length)(hb:N<=2 ^ 30)(hs:Inc es)
  (yb:Nat)(k:PE)(hy:Nm I yb k)(hi:I.In w0):
  Calls prog 249 #[.slice A N c,Q3u yb,.func (.func 250) #[] #[]] w0 (Got Nix I w0 (.tuple #[.int .i64 (lowP es k:Nat),.bool (decide (es[lowP es k]?=some k))])):=by
 have HA:=Hd (nd5 hrow ha hs hN hy);clear hrow ha hs hN hy;unfold Q3u;refine Q0c (M:=Nix) hi ?_;intro W S;go_enter func249,ntmps249;go_wp2_with (first|refine wk ?_|refine Ws ?_;clear S;intro W S|refine wn ?_;clear S;(first|(fail_if_success revert b0);intro b0 W S|intro _ W S))
 go_loopg [9,10,11] N (fun g s9 s10 s11 wr=>∃lo hi:Nat,s9=.int .i64 lo/\s10=.int .i64 hi/\lo<=hi/\hi<=N/\g=hi -lo/\Hid (St Nix I I w0 wr [(b0,L1m yb,358)] [])/\Hid (∀(j:Nat) x,es[j]?=some x->(j<lo->plt x k=true)/\(hi<=j->plt x k=false)))
 case atStart=>exact⟨0,N,rfl,rfl,Nat.zero_le _,Nat.le_refl _,rfl,S,fun j x h=>⟨fun h=>absurd h om,fun h2=>absurd (List.getElem?_eq_some_iff.1 h).1 b0w⟩⟩
 case round=>
  clear S;obtain⟨lo,hi',rfl,rfl,h1,h2,hg,S,hh⟩:=hrel;by_cases hlt:lo<hi'
  ·have hm1:lo<=((lo+hi') / 2):=by omega
   have hm2:((lo+hi') / 2)<hi':=by omega
   obtain⟨q,hq⟩:∃q,es[((lo+hi') / 2)]?=some q:=gx b0w;obtain⟨x,hx⟩:∃x,bs[((lo+hi') / 2)]?=some x:=gx b1h;obtain⟨rb,ro,rfl,hcell⟩:=Q2f.pe HA.out.1 hx;have HX:=Hd (nd3 hq (HA.out.2.1.get hx hq) HA.out.2.2.2.2);have hmN:((lo+hi') / 2)<N:=by omega
   have hi1:(0:Int)<=((lo:Int)+(hi':Int)) / 2:=by omega
   have hi2:((lo:Int)+(hi':Int)) / 2<(N:Int):=by omega
   have hi3:(((lo+hi') / 2:Nat):Int)<(N:Int):=by omega
   have hi5:(((lo:Int)+(hi':Int)) / 2).toNat=(lo+hi') / 2:=by omega
   have hi4:(0:Int)<=(((lo+hi') / 2:Nat):Int):=by omega
   have HG:=Hd hg;clear hq hx hg;cases hb:plt q k with
   |true=>
    have hbl:scmp q k<0:=Z3f.2 hb;have HB:=Hd hb;clear hb;go_wp2_with (first|refine wk ?_|refine Ws ?_;clear S;intro W S|refine wn ?_;clear S;(first|(fail_if_success revert b0);intro b0 W S|intro _ W S))
    go_region_held3 (fun W=>(W.cell? ⟨rb,ro+((lo+hi') / 2)*4,none⟩=some (pt x)/\W.cell? ⟨rb,ro+((lo+hi') / 2)*4+1,none⟩=some (pn)/\W.cell? ⟨rb,ro+((lo+hi') / 2)*4+2,none⟩=some (pn)/\W.cell? ⟨rb,ro+((lo+hi') / 2)*4+3,none⟩=some (pn))/\(W.cell? ⟨b0,0,none⟩=some (pt yb)/\W.cell? ⟨b0,1,none⟩=some (pn)/\W.cell? ⟨b0,2,none⟩=some (pn)/\W.cell? ⟨b0,3,none⟩=some (pn))) (first|exact⟨hcell.step S.out.step,Q8t (St.heap S.out .head)⟩|exact⟨hcell.step S.out.drew.step,Q8t (St.heap S.out.drew .head)⟩|go_keep) (first|(go_at_call 250;refine Q4a b0j ?_;clear S;intro S;refine got S (X4d HX.out.2.1 HX.out.2.2) ?_;clear S;intro W S));exact z0e
   |false=>
    have hbl:¬(scmp q k<0):=fun e=>by rw[Z3f.1 e]at hb;cases hb
    have HB:=Hd hb;clear hb;go_wp2_with (first|refine wk ?_|refine Ws ?_;clear S;intro W S|refine wn ?_;clear S;(first|(fail_if_success revert b0);intro b0 W S|intro _ W S))
    go_region_held3 (fun W=>(W.cell? ⟨rb,ro+((lo+hi') / 2)*4,none⟩=some (pt x)/\W.cell? ⟨rb,ro+((lo+hi') / 2)*4+1,none⟩=some (pn)/\W.cell? ⟨rb,ro+((lo+hi') / 2)*4+2,none⟩=some (pn)/\W.cell? ⟨rb,ro+((lo+hi') / 2)*4+3,none⟩=some (pn))/\(W.cell? ⟨b0,0,none⟩=some (pt yb)/\W.cell? ⟨b0,1,none⟩=some (pn)/\W.cell? ⟨b0,2,none⟩=some (pn)/\W.cell? ⟨b0,3,none⟩=some (pn))) (first|exact⟨hcell.step S.out.step,Q8t (St.heap S.out .head)⟩|exact⟨hcell.step S.out.drew.step,Q8t (St.heap S.out.drew .head)⟩|go_keep) (first|(go_at_call 250;refine Q4a b0j ?_;clear S;intro S;refine got S (X4d HX.out.2.1 HX.out.2.2) ?_;clear S;intro W S));exact z0c
  ·obtain rfl:lo=hi':=by omega
   clear hg;have hlow:lo=lowP es k:=X0w HA.out.2.2.1 b0w (fun j x hx hj=>(hh.out j x hx).1 hj) (fun j x hx hj=>(hh.out j x hx).2 hj);have HLW:=Hd hlow;clear hlow;by_cases hl:lo<N
   ·obtain⟨q,hq⟩:∃q,es[lo]?=some q:=gx b0w;obtain⟨x,hx⟩:∃x,bs[lo]?=some x:=gx b1h;obtain⟨rb,ro,rfl,hcell⟩:=Q2f.pe HA.out.1 hx;have HX:=Hd (nd3 hq (HA.out.2.1.get hx hq) HA.out.2.2.2.2);have hd:decide ((lo:Int)<(N:Int))=true:=by simp;omega
    clear hq hx;go_wp2_with (first|refine wk ?_|refine Ws ?_;clear S;intro W S|refine wn ?_;clear S;(first|(fail_if_success revert b0);intro b0 W S|intro _ W S))
    go_region_held3 (fun W=>(W.cell? ⟨rb,ro+lo*4,none⟩=some (pt x)/\W.cell? ⟨rb,ro+lo*4+1,none⟩=some (pn)/\W.cell? ⟨rb,ro+lo*4+2,none⟩=some (pn)/\W.cell? ⟨rb,ro+lo*4+3,none⟩=some (pn))/\(W.cell? ⟨b0,0,none⟩=some (pt yb)/\W.cell? ⟨b0,1,none⟩=some (pn)/\W.cell? ⟨b0,2,none⟩=some (pn)/\W.cell? ⟨b0,3,none⟩=some (pn))) (first|exact⟨hcell.step S.out.step,Q8t (St.heap S.out .head)⟩|exact⟨hcell.step S.out.drew.step,Q8t (St.heap S.out.drew .head)⟩|go_keep) (first|(go_at_call 250;refine Q4a b0j ?_;clear S;intro S;refine got S (X4d HX.out.2.1 HX.out.2.2) ?_;clear S;intro W S));exact z0f
   ·exact z0d
theorem searchNd_x(I:Gh)(A:OA)(N c:Nat)(bs:List (Nat×Nat))(es:List PE)(w0:World)(hrow:Q2f w0 A (bs.flatMap Q2p))(ha:All2 (fun n e=>Nm I n.1 e) bs es)(hN:N=es.length)(hb:N<=2 ^ 30)(hs:Inc es)
  (yb:Nat)(k:PE)(hy:Nm I yb k)(hi:I.In w0):
  Calls prog 253 #[.slice A N c,Q3u yb,.func (.func 254) #[] #[]] w0 (Got Nix I w0 (.tuple #[.int .i64 (lowP es k:Nat),.bool (decide (es[lowP es k]?=some k))])):=by
 have HA:=Hd (nd5 hrow ha hs hN hy);clear hrow ha hs hN hy;unfold Q3u;refine Q0c (M:=Nix) hi ?_;intro W S;go_enter func253,ntmps253;go_wp2_with (first|refine wk ?_|refine Ws ?_;clear S;intro W S|refine wn ?_;clear S;(first|(fail_if_success revert b0);intro b0 W S|intro _ W S))
 go_loopg [9,10,11] N (fun g s9 s10 s11 wr=>∃lo hi:Nat,s9=.int .i64 lo/\s10=.int .i64 hi/\lo<=hi/\hi<=N/\g=hi -lo/\Hid (St Nix I I w0 wr [(b0,L1m yb,358)] [])/\Hid (∀(j:Nat) x,es[j]?=some x->(j<lo->plt x k=true)/\(hi<=j->plt x k=false)))
 case atStart=>exact⟨0,N,rfl,rfl,Nat.zero_le _,Nat.le_refl _,rfl,S,fun j x h=>⟨fun h=>absurd h om,fun h2=>absurd (List.getElem?_eq_some_iff.1 h).1 b0w⟩⟩
 case round=>
  clear S;obtain⟨lo,hi',rfl,rfl,h1,h2,hg,S,hh⟩:=hrel;by_cases hlt:lo<hi'
  ·have hm1:lo<=((lo+hi') / 2):=by omega
   have hm2:((lo+hi') / 2)<hi':=by omega
   obtain⟨q,hq⟩:∃q,es[((lo+hi') / 2)]?=some q:=gx b0w;obtain⟨x,hx⟩:∃x,bs[((lo+hi') / 2)]?=some x:=gx b1h;obtain⟨rb,ro,rfl,hcell⟩:=Q2f.nd HA.out.1 hx;have HX:=Hd (nd3 hq (HA.out.2.1.get hx hq) HA.out.2.2.2.2);have hmN:((lo+hi') / 2)<N:=by omega
   have hi1:(0:Int)<=((lo:Int)+(hi':Int)) / 2:=by omega
   have hi2:((lo:Int)+(hi':Int)) / 2<(N:Int):=by omega
   have hi3:(((lo+hi') / 2:Nat):Int)<(N:Int):=by omega
   have hi5:(((lo:Int)+(hi':Int)) / 2).toNat=(lo+hi') / 2:=by omega
   have hi4:(0:Int)<=(((lo+hi') / 2:Nat):Int):=by omega
   have HG:=Hd hg;clear hq hx hg;cases hb:plt q k with
   |true=>
    have hbl:scmp q k<0:=Z3f.2 hb;have HB:=Hd hb;clear hb;go_wp2_with (first|refine wk ?_|refine Ws ?_;clear S;intro W S|refine wn ?_;clear S;(first|(fail_if_success revert b0);intro b0 W S|intro _ W S))
    go_region_held3 (fun W=>(W.cell? ⟨rb,ro+((lo+hi') / 2)*5,none⟩=some (.pointer (some ⟨x.1,0,none⟩))/\W.cell? ⟨rb,ro+((lo+hi') / 2)*5+1,none⟩=some (pn)/\W.cell? ⟨rb,ro+((lo+hi') / 2)*5+2,none⟩=some (pn)/\W.cell? ⟨rb,ro+((lo+hi') / 2)*5+3,none⟩=some (pn)/\W.cell? ⟨rb,ro+((lo+hi') / 2)*5+4,none⟩=some (.pointer (some ⟨x.2,0,none⟩)))/\(W.cell? ⟨b0,0,none⟩=some (pt yb)/\W.cell? ⟨b0,1,none⟩=some (pn)/\W.cell? ⟨b0,2,none⟩=some (pn)/\W.cell? ⟨b0,3,none⟩=some (pn))) (first|exact⟨hcell.step S.out.step,Q8t (St.heap S.out .head)⟩|exact⟨hcell.step S.out.drew.step,Q8t (St.heap S.out.drew .head)⟩|go_keep) (first|(go_at_call 254;refine Q4a b0j ?_;clear S;intro S;refine got S (X4h HX.out.2.1 HX.out.2.2) ?_;clear S;intro W S));exact z0e
   |false=>
    have hbl:¬(scmp q k<0):=fun e=>by rw[Z3f.1 e]at hb;cases hb
    have HB:=Hd hb;clear hb;go_wp2_with (first|refine wk ?_|refine Ws ?_;clear S;intro W S|refine wn ?_;clear S;(first|(fail_if_success revert b0);intro b0 W S|intro _ W S))
    go_region_held3 (fun W=>(W.cell? ⟨rb,ro+((lo+hi') / 2)*5,none⟩=some (.pointer (some ⟨x.1,0,none⟩))/\W.cell? ⟨rb,ro+((lo+hi') / 2)*5+1,none⟩=some (pn)/\W.cell? ⟨rb,ro+((lo+hi') / 2)*5+2,none⟩=some (pn)/\W.cell? ⟨rb,ro+((lo+hi') / 2)*5+3,none⟩=some (pn)/\W.cell? ⟨rb,ro+((lo+hi') / 2)*5+4,none⟩=some (.pointer (some ⟨x.2,0,none⟩)))/\(W.cell? ⟨b0,0,none⟩=some (pt yb)/\W.cell? ⟨b0,1,none⟩=some (pn)/\W.cell? ⟨b0,2,none⟩=some (pn)/\W.cell? ⟨b0,3,none⟩=some (pn))) (first|exact⟨hcell.step S.out.step,Q8t (St.heap S.out .head)⟩|exact⟨hcell.step S.out.drew.step,Q8t (St.heap S.out.drew .head)⟩|go_keep) (first|(go_at_call 254;refine Q4a b0j ?_;clear S;intro S;refine got S (X4h HX.out.2.1 HX.out.2.2) ?_;clear S;intro W S));exact z0c
  ·obtain rfl:lo=hi':=by omega
   clear hg;have hlow:lo=lowP es k:=X0w HA.out.2.2.1 b0w (fun j x hx hj=>(hh.out j x hx).1 hj) (fun j x hx hj=>(hh.out j x hx).2 hj);have HLW:=Hd hlow;clear hlow;by_cases hl:lo<N
   ·obtain⟨q,hq⟩:∃q,es[lo]?=some q:=gx b0w;obtain⟨x,hx⟩:∃x,bs[lo]?=some x:=gx b1h;obtain⟨rb,ro,rfl,hcell⟩:=Q2f.nd HA.out.1 hx;have HX:=Hd (nd3 hq (HA.out.2.1.get hx hq) HA.out.2.2.2.2);have hd:decide ((lo:Int)<(N:Int))=true:=by simp;omega
    clear hq hx;go_wp2_with (first|refine wk ?_|refine Ws ?_;clear S;intro W S|refine wn ?_;clear S;(first|(fail_if_success revert b0);intro b0 W S|intro _ W S))
    go_region_held3 (fun W=>(W.cell? ⟨rb,ro+lo*5,none⟩=some (.pointer (some ⟨x.1,0,none⟩))/\W.cell? ⟨rb,ro+lo*5+1,none⟩=some (pn)/\W.cell? ⟨rb,ro+lo*5+2,none⟩=some (pn)/\W.cell? ⟨rb,ro+lo*5+3,none⟩=some (pn)/\W.cell? ⟨rb,ro+lo*5+4,none⟩=some (.pointer (some ⟨x.2,0,none⟩)))/\(W.cell? ⟨b0,0,none⟩=some (pt yb)/\W.cell? ⟨b0,1,none⟩=some (pn)/\W.cell? ⟨b0,2,none⟩=some (pn)/\W.cell? ⟨b0,3,none⟩=some (pn))) (first|exact⟨hcell.step S.out.step,Q8t (St.heap S.out .head)⟩|exact⟨hcell.step S.out.drew.step,Q8t (St.heap S.out.drew .head)⟩|go_keep) (first|(go_at_call 254;refine Q4a b0j ?_;clear S;intro S;refine got S (X4h HX.out.2.1 HX.out.2.2) ?_;clear S;intro W S));exact z0f
   ·exact z0d
end
section
def ghW(W:World):Gh:=fun k=>W.heap[k]?
theorem gh_in(W:World):(ghW W).In W:=fun _ _ h=>h
variable{v:Value}{a:Addr}
theorem Z5v(h:W.cell? a=some v):(ghW W).cell a v/\a.spot=none:=by
 unfold World.cell? at h;split at h
 ·rename_i c t f hc
  split at h
  ·cases h
  ·rename_i hs
   have hs':a.spot=none:=by cases hq:a.spot<;>simp_all
   exact⟨⟨c,t,f,hc,hs',h⟩,hs'⟩
 ·cases h
theorem Z9u(h:a.spot=none):a.add i=⟨a.block,a.off+i,none⟩:=by
 obtain⟨b,o,s⟩:=a;cases h;unfold Addr.add;split<;>simp_all
theorem spot_of(h0:W.cell? (a.add 0)=some v):a.add i=⟨a.block,a.off+i,none⟩:=by
 have h1:=(Z5v h0).2;simp only[Addr.add,if_true]at h1;exact Z9u h1
structure Bk{H:Type}(B:DataW H->Nat):Prop where
 one:∀d,1<=B d
 str:∀l,l.length+1<=B (.lit (.string l))
 sl:∀es sp,(es.map B).sum+1<=B (.slice es sp)
 ag:∀ps,(ps.map B).sum+1<=B (.agg ps)
theorem lists_of{α β:Type}{n:Nat}{P:Nat->α->β->Prop}(h:∀i,i<n->∃a b,P i a b):∃(l1:List α) (bs:List β),l1.length=n/\bs.length=n/\∀i a b,l1[i]?=some a->bs[i]?=some b->P i a b:=by
 induction n with
 |zero=>exact⟨[],[],rfl,rfl,fun i a b h=>by simp at h⟩
 |succ n ih=>
  obtain⟨l1,bs,h1,h2,h3⟩:=ih fun i hi=>h i om;obtain⟨a,b,hp⟩:=h n om;refine⟨l1++[a],bs++[b],by simp[h1],by simp[h2],fun i a' b' ha hb=>?_⟩;by_cases hi:i<n
  ·rw[List.getElem?_append_left om]at ha hb;exact h3 i a' b' ha hb
  ·have hn:i<n+1:=by have:=(List.getElem?_eq_some_iff.1 ha).1;simp[h1]at this;omega
   obtain rfl:i=n:=by omega
   have e1:(l1++[a])[i]?=some a:=by rw[List.getElem?_append_right om,h1];simp
   have e2:(bs++[b])[i]?=some b:=by rw[List.getElem?_append_right om,h2];simp
   rw[e1]at ha;rw[e2]at hb;cases ha;cases hb;exact hp
theorem X1g:∀l:List IV,Q4w l=(l.map IV.bulk).sum
 |[]=>rfl
 |x::l=>by simp[Q4w,X1g l]
theorem sum_le{l m:List Nat}(hl:l.length=m.length)(h:∀(i:Nat) a b,l[i]?=some a->m[i]?=some b->a<=b):l.sum<=m.sum:=by
 induction l generalizing m with
 |nil=>simp
 |cons a l ih=>
  cases m with
  |nil=>simp at hl
  |cons b m=>
   have h1:=h 0 a b rfl rfl;have h2:=ih (m:=m) b2n fun i x y hx hy=>h (i+1) x y (by simpa using hx) (by simpa using hy);simp only[List.sum_cons];omega
section
variable{H:Type}{enc:TypeId×Value->H}{W:World}{B:DataW H->Nat}
theorem open_keys{fuel:Nat}{cs:List Value}{x:DataW H×List MemPlace}(hB:Bk B)(h:DataW.trod enc prog W 0 (fun _=>true) true fuel 32 cs=some x):
  ∃(A:OA) (c:Nat) (ks:List BA),cs=[.slice A ks.length c]/\ks.length<=c/\c<=maxLen/\(∀k∈ks,ByteArray.size k<=maxLen)/\Q4h (ghW W) A ks/\(ks.map fun k=>1+k.size).sum+1<=B x.1:=by
 rcases Deep.open_strs underlying32 underlying9 kr h with⟨rfl,rfl⟩|⟨a,len,cap,m,Sx,rfl,_,hl,hm,hme,rfl,hc⟩
 ·exact⟨none,0,[],rfl,Nat.le_refl _,Nat.zero_le _,fun k h=>absurd h b0f,.inl ⟨rfl,rfl⟩,hB.one _⟩
 ·have hlm:len<=m:=by rw[hme];simp;omega
  refine⟨some a,cap,(List.range len).map Sx,by simp,by simpa using hl,hm,fun k hk=>?_,?_,?_⟩
  ·obtain⟨i,hi,rfl⟩:=List.mem_map.1 hk;exact(hc i (by have:=List.mem_range.1 hi;omega)).2
  ·by_cases h0:len=0
   ·subst h0;exact .inl ⟨rfl,rfl⟩
   ·refine .inr ⟨a.block,a.off,?_,fun i s hs=>?_⟩
    ·have h1:=(Z5v (hc 0 om).1).2;simp only[Addr.add,if_true]at h1;obtain⟨b,o,s⟩:=a;cases h1;rfl
    ·have hi:i<len:=by have:=(List.getElem?_eq_some_iff.1 hs).1;simpa using this
     have e:s=Sx i:=by rw[getElem?_map,List.getElem?_range hi]at hs;exact(Option.some.inj hs).symm
     have h2:=(Z5v (hc i om).1).1;rw[spot_of (i:=i) (hc 0 om).1]at h2;rw[e];exact h2
  ·have h1:=hB.sl ((List.range len).map fun i=>.lit (.string (Sx i).data.toList)) ((List.range (m -len)).map fun j=>.lit (.string (Sx (len+j)).data.toList));refine Nat.le_trans (Nat.succ_le_succ ?_) h1;refine sum_le b0f fun i p q hp hq=>?_;have hi:i<len:=by have:=(List.getElem?_eq_some_iff.1 hp).1;simpa using this
   simp only[getElem?_map,List.getElem?_range hi,Option.map_some]at hp hq;cases hp;cases hq;have:=hB.str (Sx i).data.toList;have e:(Sx i).data.toList.length=(Sx i).size:=by rw[Array.length_toList];rfl
   omega
theorem trod_float{P:Program}{base:Nat}{spare:Nat->Bool}{held:Bool}{fuel:Nat}{t:TypeId}{cs:List Value}{x:DataW H×List MemPlace}{k:FloatKind}(ht:P.underlying t=some (.float k))(h:DataW.trod enc P W base spare held fuel t cs=some x):∃n,cs=[.float k n]:=by
 cases fuel with
 |zero=>simp[DataW.trod]at h
 |succ n=>
  unfold DataW.trod at h;rw[ht]at h;split at h<;>simp_all
theorem c35:prog.cellsOf 35=6:=by kernel_rfl
theorem open_val(hB:Bk B):∀(fuel:Nat) (cs:List Value) (x:DataW H×List MemPlace),DataW.trod enc prog W 0 (fun _=>true) true fuel 35 cs=some x->
  ∃(v:V6) (X:IV),cs=(L0a v)/\VIs (ghW W) v X/\X.bulk<=B x.1:=by
 intro fuel;induction fuel using Nat.strongRecOn with
 |ind fuel IH=>
  intro cs x h;obtain⟨xs,n,rfl,rfl,hcl,hxl,hf⟩:=DataW.trod_struct underlying35 h;rw[c35]at hcl;match cs,hcl with
  |[u0,u1,u2,u3,u4,u5],_=>
  have g0:=hf 0 ⟨ "Kind",3,0,false,"","",0⟩ rfl;dsimp only at g0;have g1:=hf 1 ⟨ "N",2,1,false,"","",8⟩ rfl;dsimp only at g1;have g2:=hf 2 ⟨ "F",31,2,false,"","",16⟩ rfl;dsimp only at g2;have g3:=hf 3 ⟨ "S",9,3,false,"","",24⟩ rfl;dsimp only at g3;have g4:=hf 4 ⟨ "Keys",32,4,false,"","",40⟩ rfl;dsimp only at g4;have g5:=hf 5 ⟨ "L",33,5,false,"","",64⟩ rfl;dsimp only at g5;rw[show prog.cellsOf 3=1 by kernel_rfl]at g0;rw[show prog.cellsOf 2=1 by kernel_rfl]at g1;rw[show prog.cellsOf 31=1 by kernel_rfl]at g2;rw[show prog.cellsOf 9=1 by kernel_rfl]at g3;rw[show prog.cellsOf 32=1 by kernel_rfl]at g4;rw[show prog.cellsOf 33=1 by kernel_rfl]at g5;have hxl':xs.length=6:=hxl;match xs,hxl' with
  |[y0,y1,y2,y3,y4,y5],_=>
  simp only[List.drop_zero,List.drop_succ_cons,List.take_succ_cons,List.take_zero,List.getElem?_cons_zero,List.getElem?_cons_succ]at g0 g1 g2 g3 g4 g5;obtain⟨k,e0,_,_⟩:=DataW.trod_int underlying3 g0;obtain⟨m,e1,_,_⟩:=DataW.trod_int underlying2 g1;obtain⟨f,e2⟩:=trod_float underlying31 g2;obtain⟨s,e3,hy3,hs⟩:=DataW.trod_string underlying9 g3;obtain⟨A1,c1,ks,e4,hk1,hk2,hk3,hk4,hk5⟩:=open_keys hB g4;have hvals:∃(A:OA) (c:Nat) (vs:List V6) (l:List IV),[u5]=[.slice A l.length c]/\vs.length=l.length/\l.length<=c/\c<=maxLen/\Q6n (ghW W) A vs/\(∀(i:Nat) v x,vs[i]?=some v->l[i]?=some x->VIs (ghW W) v x)/\Q4w l+1<=B y5.1:=by
   rcases DataW.trod_slice underlying33 g5 with⟨e,rfl⟩|⟨a,len,cap,elems,rest,n',rfl,e,rfl,_,hl,hm,hel,hc,_,_⟩
   ·exact⟨none,0,[],[],e,rfl,Nat.le_refl _,Nat.zero_le _,.inl ⟨rfl,rfl⟩,fun i v x h=>by simp at h,by simpa[Q4w]using hB.one _⟩
   ·rw[c35]at hc;have hall:∀i,i<len->∃(v:V6) (X:IV),VIs (ghW W) v X/\(∀j u,((L0a v):List Value)[j]?=some u->W.cell? ((a.add (i*6)).add j)=some u)/\∀y,elems[i]?=some y->X.bulk<=B y.1:=by
     intro i hi;have h1:=hc i hi;have h2:elems[i]?=some (elems[i]'om):=List.getElem?_eq_getElem om;rw[h2]at h1;obtain⟨cs',hcs,ht⟩:=Option.bind_eq_some_iff.1 h1;obtain⟨v,X,rfl,hv,hb⟩:=IH n' om cs' _ ht;refine⟨v,X,hv,fun j u hu=>?_,fun y hy=>?_⟩
     ·have h3:=World.cells?_some hcs;rw[h3.2.2 j (by have:=(List.getElem?_eq_some_iff.1 hu).1;simpa using this)];exact hu
     ·rw[h2]at hy;cases hy;exact hb
    obtain⟨vs,l,hvl,hll,hP⟩:=lists_of hall;have hbk:Q4w l+1<=B (.slice (elems.map (·.1)) (rest.map (·.1))):=by
     refine Nat.le_trans (Nat.succ_le_succ ?_) (hB.sl _ _);rw[X1g];refine sum_le (by simp[hll,hel]) fun i p q hp hq=>?_;rw[getElem?_map]at hp hq;cases hl':l[i]? with
     |none=>rw[hl']at hp;cases hp
     |some X=>
      rw[hl']at hp;cases hp;rw[getElem?_map]at hq;cases he:elems[i]? with
      |none=>rw[he]at hq;cases hq
      |some y=>
       rw[he]at hq;cases hq;have hi:i<len:=by have:=(List.getElem?_eq_some_iff.1 hl').1;omega
       exact(hP i _ _ (List.getElem?_eq_getElem om) hl').2.2 y he
    refine⟨some a,cap,vs,l,by rw[e,hll],by rw[hvl,hll],by rw[hll];exact hl,hm,?_,fun i v x hv hx=>(hP i v x hv hx).1,hbk⟩;by_cases h0:len=0
    ·subst h0;have:=List.eq_nil_of_length_eq_zero hvl;exact .inl ⟨this,this⟩
    ·obtain⟨v0,hv0⟩:∃v,vs[0]?=some v:=gx om;obtain⟨x0,hx0⟩:∃x,l[0]?=some x:=gx om;have hsp:a.spot=none:=by
      have h1:=(Z5v ((hP 0 v0 x0 hv0 hx0).2.1 0 _ rfl)).2;simpa[Addr.add]using h1
     refine .inr ⟨a.block,a.off,?_,fun i v hv=>?_⟩
     ·obtain⟨b,o,s⟩:=a;cases hsp;rfl
     ·obtain⟨X,hX⟩:∃x,l[i]?=some x:=gx (by have:=(List.getElem?_eq_some_iff.1 hv).1;omega);have hc:=(hP i v X hv hX).2.1;have key:∀j u,((L0a v):List Value)[j]?=some u->(ghW W).cell ⟨a.block,a.off+i*6+j,none⟩ u:=fun j u hu=>by
       have h1:=(Z5v (hc j u hu)).1;rw[Z9u (a:=a) hsp,Z9u rfl]at h1;exact h1
      exact⟨key 0 _ rfl,key 1 _ rfl,key 2 _ rfl,key 3 _ rfl,key 4 _ rfl,key 5 _ rfl⟩
  obtain⟨A2,c2,vs,l,e5,hvl,hl1,hl2,h6,hV,hb5⟩:=hvals;cases e0;cases e1;cases e2;cases e3;cases e4;cases e5;refine⟨⟨k,m,f,s,A1,ks.length,c1,A2,l.length,c2⟩,.mk k m f s ks l,rfl,.mk k m f s A1 c1 ks A2 c2 vs l hs ⟨hk1,hk2⟩ hk3 hk4 hvl ⟨hl1,hl2⟩ h6 hV,?_⟩;have h1:=hB.ag ([y0,y1,y2,y3,y4,y5].map (·.1));simp only[List.map_cons,map_nil,List.sum_cons,List.sum_nil]at h1;have h2:=hB.str s.data.toList;have e:s.data.toList.length=s.size:=by rw[Array.length_toList];rfl
  rw[hy3]at h1;dsimp only at h1;simp only[IV.bulk,List.map_cons,map_nil,hy3];omega
end
end
end Go.Proofs.YtbmklgemmjgjfaaGreat
