/- Part 42: Pln, Ftr. -/
import Derived.Test.YtbmklgemmjgjfaaGreatT37
import Derived.Test.YtbmklgemmjgjfaaGreatT40
namespace Go.Proofs.YtbmklgemmjgjfaaGreat
open List (map_cons)
open Go.RowKit Go.Maps Tryz
set_option linter.unusedVariables false
set_option linter.unusedSimpArgs false
set_option maxRecDepth 100000
set_option maxHeartbeats 16000000
variable{I J:Gh}
section
def PlainH(N:Nat):Prop:=∀(I:Gh) (v:V6) (x:IV),VIs I v x->x.bulk<N->x.bulk<2 ^ 30->Ac 91 #[v.agg] I [] [] (N0 fun u K=>Q0r K u x.tr)
theorem in20:Inf prog 20 .nilIface 1 16:=by unfold Inf;kernel_rfl
theorem Q0r.one{v:Value}{t:Tr}(h:Q0r I v t):v.oneCell'=true:=by cases h<;>rfl
variable{v:V6}{vs:List V6}
theorem X8c{a:OA}(h:Q6n I a vs){i:Nat}(hv:vs[i]?=some v):∃b o,a=some (ad b o)/\∀(j:Nat) u,((L0a v):List Value)[j]?=some u->I.cell (ad b (o+i*6+j)) u:=by
 rcases h with⟨_,rfl⟩|⟨b,o,rfl,h⟩
 ·simp at hv
 ·have h6:=h _ _ hv;refine⟨b,o,rfl,fun j u hu=>?_⟩;match j,hu with
  |0,hu=>simp at hu;subst hu;exact h6.c0
  |1,hu=>simp at hu;subst hu;exact h6.c1
  |2,hu=>simp at hu;subst hu;exact h6.c2
  |3,hu=>simp at hu;subst hu;exact h6.c3
  |4,hu=>simp at hu;subst hu;exact h6.c4
  |5,hu=>simp at hu;subst hu;exact h6.c5
  |j+6,hu=>simp at hu
theorem row_some{M:Nat->Prop}{w W:World}{L:List Blk}{R:List Rw}{A:OA}{n c size:Nat}{e:TypeId}{xs:List Value}(S:St M I J w W L (⟨.slice A (n+1) c,e,size,n+1,xs⟩::R)):A.isSome=true:=by
 rcases(S.rows _ (List.mem_cons_self ..)).1.2 with⟨_,h⟩|⟨g,cap,cur,h,_⟩
 ·cases h
 ·cases h;rfl
theorem Z9s:∀{l:List IV} {i:Nat} {x:IV},l[i]?=some x->x.bulk<=Q4w l
 |[],i,x,h=>by simp at h
 |y::l,0,x,h=>by simp at h;subst h;simp only[Q4w];omega
 |y::l,i+1,x,h=>by have:=Z9s (l:=l) (i:=i) (x:=x) b0b;simp only[Q4w];omega
theorem Z4k:∀l:List IV,l.length<=Q4w l
 |[]=>Nat.zero_le _
 |.mk k n f s ks m::l=>by have:=Z4k l;simp only[Q4w,IV.bulk,List.length_cons];omega
theorem ks_len:∀ks:List BA,ks.length<=(ks.map fun k=>1+k.size).sum
 |[]=>Nat.zero_le _
 |k::ks=>by have:=ks_len ks;simp only[map_cons,List.sum_cons,List.length_cons];omega
def EntIs(K:Gh)(p:BA×Value)(q:BA×Tr):Prop:=p.1=q.1/\Q0r K p.2 q.2
theorem X3f{K:Gh}{k:BA}{v:Value}{t:Tr}(hv:Q0r K v t):∀{em:KV} {m:KT},All2 (EntIs K) em m->All2 (EntIs K) (insK em k v) (insK m k t)
 |_,_,.nil=>.cons ⟨rfl,hv⟩ .nil
 |p::em,q::m,.cons h hs=>by
  unfold insK;rw[h.1];split
  ·exact .cons h (X3f hv hs)
  ·split
   ·exact .cons ⟨rfl,hv⟩ hs
   ·exact .cons ⟨rfl,hv⟩ (.cons h hs)
theorem X2l{K:Gh}:∀{em:KV} {m:KT},All2 (EntIs K) em m->em.map (·.1)=m.map (·.1)
 |_,_,.nil=>rfl
 |_,_,.cons h hs=>by rw[map_cons,map_cons,h.1,X2l hs]
theorem pmap_t(N:Nat)(IH:PlainH N){k n:Int}{f:Nat}{s:BA}{a1 a2:OA}{c1 c2:Nat}{ks:List BA}{l:List IV}(hks:∀x∈ks,ByteArray.size x<=maxLen)(h1:Q4h J a1 ks)(hl:vs.length=l.length)(h2:Q6n J a2 vs)(h:∀(i:Nat) v x,vs[i]?=some v->l[i]?=some x->VIs J v x)(hN:∀x∈l,x.bulk<N/\x.bulk<2 ^ 30)(hb:ks.length<2 ^ 30):
  Ac 145 #[.agg (L0e k n f s a1 ks.length c1 a2 l.length c2).toArray] J [] []<|N0 fun u K=>∃r,u=.map (some r)/\Q0r K (.iface 283 u) (.map (mkM [] ks (trL l))):=by
 intro M I w W S;have HV:=Hd (nd6 hks h1 hl h2 h (And.intro hN hb));clear hks h1 hl h2 h hN hb;go_enter func145,ntmps145;go_wp2_with (first|refine wk ?_|refine wn ?_;clear S;intro vb W S|refine X1a S rfl rfl ?_;clear S;intro mr W S)
 go_loopg [10] ks.length (fun g s10 wr=>∃(i:Nat) (K:Gh) (em:KV) (T:List Blk),s10=.int .i64 (i:Nat)/\i<=ks.length/\g=ks.length -i/\Hid (St M I K w wr ((mr,[],.m em)::(vb,L0e k n f s a1 ks.length c1 a2 l.length c2,.t 35)::T) [])/\Hid (J.le K/\All2 (EntIs K) em (mkM [] (ks.take i) ((trL l).take i))/\em.length<=i))
 case atStart=>exact⟨0,J,[],_,rfl,Nat.zero_le _,rfl,S,Hd ⟨gR,.nil,Nat.le_refl _⟩⟩
 case round=>
  clear S;obtain⟨i,K,em,T,rfl,hi1,hg,S,HW⟩:=hrel;by_cases hlt:i<ks.length
  ·obtain⟨key,hkey⟩:∃x,ks[i]?=some x:=gx hlt;obtain⟨b1,o1,rfl,hK0⟩:∃b o,a1=some (ad b o)/\J.cell (ad b (o+i)) (.string key):=(by rcases HV.out.2.1 with⟨_,e⟩|⟨b,o,rfl,h⟩;(subst e;simp at hkey);exact⟨b,o,rfl,h _ _ hkey⟩)
   have hK:=Hd (hK0.mono HW.out.1);clear hK0;have hN1:i+1<2 ^ 32:=by have:=HV.out.2.2.2.2.2.2;omega
   by_cases hl2:i<l.length
   ·obtain⟨x,hx⟩:∃x,l[i]?=some x:=gx hl2;obtain⟨v,hv⟩:∃v,vs[i]?=some v:=gx (by have:=HV.out.2.2.1;omega);obtain⟨b2,o2,rfl,hX0⟩:=X8c (HV.out.2.2.2.1.mono HW.out.1) hv;have hX:=Hd hX0;have HX:=Hd (nd5 ((HV.out.2.2.2.2.1 _ _ _ hv hx).mono HW.out.1) (HV.out.2.2.2.2.2.1 _ (List.mem_of_getElem? hx)) (show(trL l)[i]?=some x.tr by rw[Q9i,List.getElem?_map,hx];rfl) hkey (HV.out.1 _ (List.mem_of_getElem? hkey)));clear hx hv hX0 hkey;go_wp2_with (first|refine X9l (sub:=(L0a v)) rf rfl rfl rfl hX.out S.out.inw ?_|refine wk ?_|refine wlf hK.out S ?_)
    have hcall:=IH K v x HX.out.1 HX.out.2.1.1 HX.out.2.1.2;simp only[V6.agg]at hcall;refine Q0a S hcall ?_;clear hcall;rintro r5 K5 L5 R5 W' hle5 ⟨rfl,rfl,ha5⟩ S2;have HA:=Hd (And.intro ha5 hle5);clear S ha5 hle5;have S:=S2;clear S2;replace S:=sa S;have hem:em.length<maxLen:=by have:=HW.out.2.2;have:=HV.out.2.2.2.2.2.2;unfold maxLen;omega
    go_wp2_with (refine X6y (v:=r5) S rfl rfl rfl rfl rfl underlying283 hem HX.out.2.2.2.2 ?_;clear S;intro W S)
    go_roundg (ks.length -(i+1))
    case measure=>omega
    case rel=>exact⟨i+1,K5,insK em key r5,T,rfl,by omega,rfl,S,Hd ⟨gT HW.out.1 HA.out.2,by rw[Z9v _ _ _ _ _ _ HX.out.2.2.2.1 HX.out.2.2.1];exact X3f HA.out.1 (HW.out.2.1.imp fun _ _ h=>⟨h.1,h.2.mono HA.out.2⟩),Nat.le_trans (Q3r _ _ _) (by have:=HW.out.2.2;omega)⟩⟩
   ·go_wp2_with (first|refine wk ?_|refine wlf hK.out S ?_)
    go_roundg (ks.length -(i+1))
    case measure=>omega
    case rel=>
     refine⟨i+1,K,em,T,rfl,by omega,rfl,S,Hd ⟨HW.out.1,?_,by have:=HW.out.2.2;omega⟩⟩;have ht:(trL l).length<=i:=by rw[Q9i,List.length_map];omega
     have:=HW.out.2.1;rw[Z3a _ _ _ _ (.inr ht)]at this;rw[Z3a _ _ _ _ (.inr om)];exact this
  ·have hi2:i=ks.length:=by omega
   subst hi2;go_wp2_with fail
   obtain⟨K2,hle2,hm2,S3⟩:=S.out.freezeM;refine bT ?_;refine ap (L:=[]) (gT HW.out.1 hle2) ⟨rfl,rfl,mr,rfl,?_⟩ (show St _ _ _ _ _ _ _ from keep (Hd S3));have h2:=HW.out.2.1;rw[Z3a _ _ _ _ (.inl (Nat.le_refl _))]at h2;exact Q0r.map mr em _ hm2 (X2l h2) fun i v t h3 h4=>((h2.get h3 h4).2).mono hle2
variable{x:IV}
theorem plain_t(N:Nat)(IH:PlainH N)(hv:VIs J v x)(hN:x.bulk<=N)(hb:x.bulk<2 ^ 30):Ac 91 #[v.agg] J [] []<|N0 fun u K=>Q0r K u x.tr:=by
 intro M I w W S;cases hv with|mk k n f s a1 c1 ks a2 c2 vs l hs hk hks h1 hl hn h2 h=>
 have HV:=Hd (nd6 (nd4 hs hk hks h1) hl hn h2 h (And.intro hN hb));clear hs hk hks h1 hl hn h2 h hN hb;simp only[V6.agg];go_enter func91,ntmps91;by_cases k1:k=1
 ·subst k1;go_wp2_with (first|refine wk ?_|refine wn ?_;clear S;intro vb W S)
  refine bT ?_;exact ap (L:=[]) gR ⟨rfl,rfl,by rw[show(IV.mk 1 n f s ks l).tr=.bool (n != 0) by simp[IV.tr]];constructor⟩ kp
 by_cases k2:k=2
 ·subst k2;go_wp2_with (first|refine wk ?_|refine wn ?_;clear S;intro vb W S)
  refine bT ?_;exact ap (L:=[]) gR ⟨rfl,rfl,by rw[show(IV.mk 2 n f s ks l).tr=.int n by simp[IV.tr]];constructor⟩ kp
 by_cases k3:k=3
 ·subst k3;go_wp2_with (first|refine wk ?_|refine wn ?_;clear S;intro vb W S)
  refine bT ?_;exact ap (L:=[]) gR ⟨rfl,rfl,by rw[show(IV.mk 3 n f s ks l).tr=.flt f by simp[IV.tr]];constructor⟩ kp
 by_cases k4:k=4
 ·subst k4;go_wp2_with (first|refine wk ?_|refine wn ?_;clear S;intro vb W S)
  refine bT ?_;exact ap (L:=[]) gR ⟨rfl,rfl,by rw[show(IV.mk 4 n f s ks l).tr=.str s by simp[IV.tr]];constructor⟩ kp
 by_cases k5:k=5
 ·subst k5;go_wp2_with (first|refine wk ?_|refine wn ?_;clear S;intro vb W S|refine wl_make (t:=282) (e:=20) (m:=l.length) S rf rf underlying282 in20 rf rf rf (by have:=HV.out.2.2.2.2.2.2;have:=Z4k l;simp only[IV.bulk]at*;omega) (by have:=HV.out.2.2.2.2.2.2;have:=Z4k l;simp only[IV.bulk]at*;unfold maxLen;omega) ?_;clear S;intro bm W S)
  go_loopg [3,38] l.length (fun g s3 s38 wr=>∃(i:Nat) (K:Gh) (A:OA) (c:Nat) (us:List Value) (T:List Blk),s3=.slice A i c/\s38=.int .i64 (i:Nat)/\i<=l.length/\g=l.length -i/\us.length=i/\A.isSome=true/\Hid (St M I K w wr T [⟨.slice A i c,20,1,i,us⟩])/\Hid (J.le K/\All2 (Q0r K) us ((l.take i).map IV.tr)))
  case atStart=>exact⟨0,J,_,_,[],_,rfl,rfl,Nat.zero_le _,rfl,rfl,rfl,S,Hd ⟨gR,.nil⟩⟩
  case round=>
   clear S;obtain⟨i,K,A,c,us,T,rfl,rfl,hi1,hg,hul,hA,S,HW⟩:=hrel;have HU:=Hd hA;clear hA;by_cases hlt:i<l.length
   ·obtain⟨x,hx⟩:∃x,l[i]?=some x:=gx hlt;obtain⟨v,hv⟩:∃v,vs[i]?=some v:=gx (by have:=HV.out.2.1;omega);obtain⟨b2,o2,rfl,hX0⟩:=X8c (HV.out.2.2.2.1.mono HW.out.1) hv;have hX:=Hd hX0;have HX:=Hd (nd3 ((HV.out.2.2.2.2.1 _ _ _ hv hx).mono HW.out.1) (show x.bulk<N/\x.bulk<2 ^ 30 by have h1:=Z9s hx;have h2:=HV.out.2.2.2.2.2;simp only[IV.bulk]at h2;omega) (Q1k hx));clear hx hv hX0;go_wp2_with (first|refine X9l (sub:=(L0a v)) rf rfl rfl rfl hX.out S.out.inw ?_|refine wk ?_|refine Ws ?_;clear S;intro W S|refine wn ?_;clear S;intro y W S)
    have hcall:=IH K v x HX.out.1 HX.out.2.1.1 HX.out.2.1.2;simp only[V6.agg]at hcall;refine Q0a S hcall ?_;clear hcall;rintro r5 K5 L5 R5 W' hle5 ⟨rfl,rfl,ha5⟩ S2;have HA:=Hd (nd4 ha5 hle5 (Q5j ha5.one) (show[r5].all (fun u=>u.oneCell')=true by simp[ha5.one]));clear S ha5 hle5;have S:=S2;clear S2;replace S:=sa S;have hN:i+1<2 ^ 32:=by have h1:=HV.out.2.2.2.2.2.2;have h2:=Z4k l;simp only[IV.bulk]at h1;omega
    go_wp2_with (first|refine Q9a (sub:=[r5]) S rfl rfl underlying282 HA.out.2.2.1 ?_;clear S;intro z W S|refine Q7e S rfl rfl rfl rfl underlying282 in20 HA.out.2.2.2 hN ?_;clear S;intro A1 c1' W S)
    go_roundg (l.length -(i+1))
    case measure=>omega
    case rel=>exact⟨i+1,K5,A1,c1',us++[r5],_,rfl,by simp,by omega,rfl,by simp[hul],row_some S.out,S,Hd ⟨gT HW.out.1 HA.out.2.1,by rw[HX.out.2.2,List.map_append];exact Q1e (HW.out.2.imp fun _ _ h=>h.mono HA.out.2.1) HA.out.1⟩⟩
   ·have hi2:i=l.length:=by omega
    subst hi2;go_wp2_with fail
    obtain⟨K2,qa,qc,hle2,hv2,hn2,hm2,hf2,S3⟩:=S.out.rfreeze;simp only[Value.slice.injEq,true_and]at hv2;obtain⟨rfl,rfl⟩:=hv2;have hlist:Q0r K2 (.iface 282 (.slice A l.length c)) (IV.mk 5 n f s ks l).tr:=(by
     rw[show(IV.mk 5 n f s ks l).tr=.list (trL l) by simp[IV.tr]];rcases hf2 with⟨e1,_⟩|⟨b,o,rfl,hc2⟩
     ·have:=HU.out;rw[e1]at this;cases this
     ·have ht:(trL l).length=l.length:=by rw[Q9i];simp
      have h2:=HW.out.2;rw[List.take_length,<-Q9i]at h2;have:=Q0r.list (I:=K2) b o c us (trL l) om (by rw[ht];exact Nat.le_trans hn2 hm2) hc2 (fun i v t h3 h4=>(h2.get h3 h4).mono hle2);rwa [ht]at this)
    refine bT ?_;exact ap (L:=[]) (gT HW.out.1 hle2) ⟨rfl,rfl,hlist⟩ (show St _ _ _ _ _ _ _ from keep (Hd S3))
 by_cases k6:k=6
 ·subst k6;go_wp2_with (first|refine wk ?_|refine wn ?_;clear S;intro vb W S)
  have hcall:=pmap_t (k:=6) (n:=n) (f:=f) (s:=s) (c1:=c1) (c2:=c2) N IH HV.out.1.2.2.1 HV.out.1.2.2.2 HV.out.2.1 HV.out.2.2.2.1 HV.out.2.2.2.2.1 (fun x hx=>(by obtain⟨i,hi⟩:=List.getElem?_of_mem hx;have h1:=Z9s hi;have h2:=HV.out.2.2.2.2.2;simp only[IV.bulk]at h2;omega)) (by have h2:=HV.out.2.2.2.2.2.2;have h3:=ks_len ks;simp only[IV.bulk]at h2;omega);refine Q0a S hcall ?_;clear hcall;rintro r5 K5 L5 R5 W' hle5 ⟨rfl,rfl,r,rfl,ha5⟩ S2;have HA:=Hd (And.intro ha5 hle5);clear S ha5 hle5;have S:=S2;clear S2;replace S:=sa S;go_wp2_with fail
  refine bT ?_;exact ap (L:=[]) HA.out.2 ⟨rfl,rfl,by rw[show(IV.mk 6 n f s ks l).tr=.map (mkM [] ks (trL l)) by simp[IV.tr]];exact HA.out.1⟩ kp
 go_wp2_with (first|refine wk ?_|refine wn ?_;clear S;intro vb W S)
 refine bT ?_;exact ap (L:=[]) gR ⟨rfl,rfl,by rw[show(IV.mk k n f s ks l).tr=.null by simp[IV.tr,k1,k2,k3,k4,k5,k6]];constructor⟩ kp

theorem X1m:∀N,PlainH N
 |0=>fun I v x _ h=>absurd h (Nat.not_lt_zero _)
 |N+1=>fun I v x hv hN hb=>plain_t N (X1m N) hv om hb
theorem plain_s(hv:VIs J v x)(hb:x.bulk<2 ^ 30):Ac 91 #[v.agg] J [] []<|N0 fun u K=>Q0r K u x.tr:=X1m _ J v x hv (Nat.lt_succ_self _) hb
end
section
section
variable{ops:Array Oper}{L:List Blk}{R:List Rw}{J:Gh}{o:Oper}{a:Act}{m x:Operand}{r:Nat}{s:BA}{v:Value}
theorem y_lookF(z:Value)(hg:o.guard=none){t e:TypeId}(hop:o.op=.lookup t m x false)(ht:prog.underlying t=some (.map 9 e))(hz:∀w:World,(zeroValue e).run prog w=.ok z w)
  {M:KV}(hm:a.eval m=.map (some r))(hmem:J.map r M)(hx:a.eval x=.string s)(hs:s.size<=maxLen)(hv:(findK M s).getD z=v):YieldsIf prog ops (Vw J L R) o v a:=
 y_at (Q0b hg _) fun W hW=>by
  obtain⟨v',ps,hrun,hv'⟩:=World.ownsMap.lookup (hmem.at hW.2.2) law9 ht (hz W) (zd:=.held z) (zp:=[]) rfl (key9 hs);have e1:v'=(findK M s).getD z:=by
   have h1:DataW.held v'=(DM M).atKey (klit s) (.held z):=by simpa[RV]using congrArg (Option.map Prod.fst) hv'
   exact e0o
  simp[execOp,hop,hm,hx,hrun,Result.andThen];rw[<-hv,e1]
end
variable{A:OA}
theorem X8b{us:List V6}(h:Q0u I A (Q4l us)):Q6n I A us:=by
 rcases h with⟨e,h⟩|⟨b,o,e,h⟩
 ·left;have:=Q5m us;rw[h]at this;simp at this;have:=List.eq_nil_of_length_eq_zero (l:=us) om;exact⟨this,this⟩
 ·right;refine⟨b,o,e,fun i v hv=>?_⟩;have g:∀j u,j<6->v.cells[j]?=some u->I.cell (ad b (o+i*6+j)) u:=fun j u hj hu=>by rw[Nat.add_assoc];exact h _ _ ((Z6q hv hj).trans hu)
  exact⟨g 0 _ om rfl,g 1 _ om rfl,g 2 _ om rfl,g 3 _ om rfl,g 4 _ om rfl,g 5 _ om rfl⟩
theorem strs_flat{ks:List BA}(h:Q0u I A (ks.map Value.string)):Q4h I A ks:=by
 rcases h with⟨e,h⟩|⟨b,o,e,h⟩
 ·exact .inl ⟨by simpa using h,by simpa using h⟩
 ·exact .inr ⟨b,o,e,fun i s hs=>h _ _ (by rw[List.getElem?_map,hs];rfl)⟩
theorem Q6z{k n:Int}{f:Nat}{s:BA}(hs:s.size<=maxLen):VIs I ⟨k,n,f,s,none,0,0,none,0,0⟩ (.mk k n f s [] []):=
 .mk k n f s none 0 [] none 0 [] [] hs ⟨Nat.zero_le _,Nat.zero_le _⟩ (fun _ h=>absurd h b0f) (.inl ⟨rfl,rfl⟩) rfl ⟨Nat.zero_le _,Nat.zero_le _⟩ (.inl ⟨rfl,rfl⟩) (fun i v x h=>absurd h b0f)
def FtrH(N:Nat):Prop:=∀(J:Gh) (v:Value) (t:Tr),Q0r J v t->t.bulk<N->t.bulk<2 ^ 30->Ac 218 #[v] J [] [] (N0 fun u K=>∃x:V6,u=x.agg/\VIs K x t.iv)
variable{t:Tr}{v:Value}
theorem ftr_t(N:Nat)(IH:FtrH N)(h:Q0r J v t)(hN:t.bulk<=N)(hb:t.bulk<2 ^ 30):Ac 218 #[v] J [] []<|N0 fun u K=>∃x:V6,u=x.agg/\VIs K x t.iv:=by
 intro M I w W S;cases h with
 |null=>
  go_enter func218,ntmps218;skip;go_wp2_with (first|refine wk ?_|refine wn ?_;clear S;(first|(fail_if_success revert y0);intro y0 W S|intro y W S)|refine Ws ?_;clear S;intro W S)
  refine bT ?_;exact ap (L:=[]) gR ⟨rfl,rfl,⟨0,0,0,⟨#[]⟩,none,0,0,none,0,0⟩,rfl,Q6z (Nat.zero_le _)⟩ kp
 |bool b=>
  go_enter func218,ntmps218;cases b;all_goals go_wp2_with (first|refine wk ?_|refine wn ?_;clear S;(first|(fail_if_success revert y0);intro y0 W S|intro y W S)|refine Ws ?_;clear S;intro W S)
  all_goals refine bT ?_
  ·exact ap (L:=[]) gR ⟨rfl,rfl,⟨1,0,0,⟨#[]⟩,none,0,0,none,0,0⟩,rfl,Q6z (Nat.zero_le _)⟩ kp
  ·exact ap (L:=[]) gR ⟨rfl,rfl,⟨1,1,0,⟨#[]⟩,none,0,0,none,0,0⟩,rfl,Q6z (Nat.zero_le _)⟩ kp
 |int n=>
  go_enter func218,ntmps218;skip;go_wp2_with (first|refine wk ?_|refine wn ?_;clear S;(first|(fail_if_success revert y0);intro y0 W S|intro y W S)|refine Ws ?_;clear S;intro W S)
  refine bT ?_;exact ap (L:=[]) gR ⟨rfl,rfl,⟨2,n,0,⟨#[]⟩,none,0,0,none,0,0⟩,rfl,Q6z (Nat.zero_le _)⟩ kp
 |flt n=>
  go_enter func218,ntmps218;skip;go_wp2_with (first|refine wk ?_|refine wn ?_;clear S;(first|(fail_if_success revert y0);intro y0 W S|intro y W S)|refine Ws ?_;clear S;intro W S)
  refine bT ?_;exact ap (L:=[]) gR ⟨rfl,rfl,⟨3,0,n,⟨#[]⟩,none,0,0,none,0,0⟩,rfl,Q6z (Nat.zero_le _)⟩ kp
 |str s=>
  go_enter func218,ntmps218;skip;go_wp2_with (first|refine wk ?_|refine wn ?_;clear S;(first|(fail_if_success revert y0);intro y0 W S|intro y W S)|refine Ws ?_;clear S;intro W S)
  refine bT ?_;exact ap (L:=[]) gR ⟨rfl,rfl,⟨4,0,0,s,none,0,0,none,0,0⟩,rfl,Q6z (by simp only[Tr.bulk]at hb;unfold maxLen;omega)⟩ kp
 |list b o c0 vs ts hl hn hc h=>
  have HV:=Hd (nd5 hl hc h hN hb);have HN:=Hd hn;clear hl hc h hN hb hn;go_enter func218,ntmps218;replace S:=Hd (S.out.nilrow 35 6);go_wp2_with (first|refine wk ?_|refine wn ?_;clear S;(first|(fail_if_success revert y0);intro y0 W S|intro y W S)|refine Ws ?_;clear S;intro W S)
  go_loopg [43] ts.length (fun g s43 wr=>∃(i:Nat) (K:Gh) (A:OA) (c:Nat) (us:List V6) (T:List Blk),s43=.int .i64 (i:Nat)/\i<=ts.length/\g=ts.length -i/\us.length=i/\Hid (St M I K w wr ((y,L1w A i c,.t 35)::(y0,L0c,.t 35)::T) [⟨.slice A i c,35,6,i,Q4l us⟩])/\Hid (J.le K/\All2 (VIs K) us ((ts.take i).map Tr.iv)))
  case atStart=>exact⟨0,J,none,0,[],_,rfl,Nat.zero_le _,rfl,rfl,S,Hd ⟨gR,.nil⟩⟩
  case round=>
   clear S;obtain⟨i,K,A,c,us,T,rfl,hi1,hg,hul,S,HW⟩:=hrel;by_cases hlt:i<ts.length
   ·obtain⟨t,hx⟩:∃x,ts[i]?=some x:=gx hlt;obtain⟨v,hv⟩:∃v,vs[i]?=some v:=gx (by have:=HV.out.1;omega);have hX:=Hd ((HV.out.2.1 _ _ hv).mono HW.out.1);have HX:=Hd (nd3 ((HV.out.2.2.1 _ _ _ hv hx).mono HW.out.1) (show t.bulk<N/\t.bulk<2 ^ 30 by have h1:=X3m (List.mem_of_getElem? hx);have h2:=HV.out.2.2.2;simp only[Tr.bulk]at h2;omega) (Q1k hx));have hN:i+1<2 ^ 32:=by have h2:=HV.out.2.2.2.2;have h3:=Z6d ts;simp only[Tr.bulk]at h2;omega
    clear hx hv;go_wp2_with (refine wlf hX.out S ?_)
    refine Rg S [(y,L1w A i c,.t 35)] [] [7] [0,1,2] 5 fun W S=>?_;refine Zw [] 4 3 ?_;intro KK hKK;go_simp;have hcall:=IH K v t HX.out.1 HX.out.2.1.1 HX.out.2.1.2;refine Q0a S hcall ?_;clear hcall S;rintro r5 K5 L5 R5 W' hle5 ⟨rfl,rfl,x5,rfl,hx5⟩ S;have HA:=Hd (And.intro hx5 hle5);clear hx5;unfold V6.agg;replace S:=sa S;refine Yw [] 3 4 ?_;intro KK hKK;refine Q1s (sub:=x5.cells) S rfl underlying33 rfl ?_;unfold V6.cells;clear S;intro z W S;refine Yw [6] 1 5 ?_;intro KK hKK;refine Q1m S rfl rfl rfl underlying33 in35 rfl hN ?_;clear S;intro A1 c1 W S;refine Ht ?_;refine Cl 7 fun KK hKK=>?_;refine Q0j (v:=.slice A1 (i+1) c1) S rfl rfl rfl rfl ?_;clear S;intro W S;refine hKK.out _ _ (NoPanic.normal ?_);clear hKK KK;go_wp2_with fail
    go_roundg (ts.length -(i+1))
    case measure=>omega
    case rel=>exact⟨i+1,K5,A1,c1,us++[x5],_,by simp,by omega,rfl,by simp[hul],(by rw[Q6w];exact Lib.front S [(y,L1w A1 (i+1) c1,.t 35),(y0,L0c,.t 35)] [⟨.slice A1 (i+1) c1,35,6,i+1,Q4l us++(L0a x5)⟩]),Hd ⟨gT HW.out.1 HA.out.2,by rw[HX.out.2.2,List.map_append];exact Q1e (HW.out.2.imp fun _ _ h=>h.mono HA.out.2) HA.out.1⟩⟩
   ·have hi2:i=ts.length:=by omega
    subst hi2;go_wp2_with (first|refine wk ?_|refine Ws ?_;clear S;intro W S)
    refine bT ?_;obtain⟨K2,qa,qc,hle2,hv2,hn2,hm2,hf2,S3⟩:=S.out.rfreeze;simp only[Value.slice.injEq,true_and]at hv2;obtain⟨rfl,rfl⟩:=hv2;have h2:=HW.out.2;rw[List.take_length]at h2;have hl2:(ivL ts).length=ts.length:=by rw[Z6k];simp
    refine ap (L:=[]) (gT HW.out.1 hle2) ⟨rfl,rfl,⟨5,0,0,⟨#[]⟩,none,0,0,A,ts.length,c⟩,rfl,?_⟩ (show St _ _ _ _ _ _ _ from keep (Hd S3));have:=VIs.mk (I:=K2) 5 0 0 ⟨#[]⟩ none 0 [] A c us (ivL ts) (Nat.zero_le _) ⟨Nat.zero_le _,Nat.zero_le _⟩ (fun _ h=>absurd h b0f) (.inl ⟨rfl,rfl⟩) (by rw[hl2];exact hul) (by rw[hl2];exact⟨hn2,hm2⟩) (X8b hf2) (fun i v x h3 h4=>(h2.get h3 (by rw[<-Z6k];exact h4)).mono hle2);rwa [hl2]at this
 |map r e m hm hk h=>
  have hlen:e.length=m.length:=by have:=congrArg List.length hk;simpa using this
  have HV:=Hd (nd6 hlen hm h hN hb hk);have hel:e.length<2 ^ 30:=by have h3:=Z2d m;simp only[Tr.bulk]at hb;omega
  have HE:=Hd hel;clear h hN hb hk hlen hel;go_enter func218,ntmps218;replace S:=Hd (S.out.nilrow 35 6);go_wp2_with (first|refine wk ?_|refine wn ?_;clear S;(first|(fail_if_success revert y0);intro y0 W S|intro y W S)|refine Ws ?_;clear S;intro W S)
  refine Q0a S (X3t hm HE.out) ?_;clear S;rintro r5 K5 L5 R5 W' hle5 ⟨hKJ,rfl,Ak,ck,rfl,rfl⟩ S;have hJK:=hKJ.symm;subst hJK;replace S:=sa S;obtain⟨K1,qa,qc,hle1,hv1,hn1,hm1,hf1,S3⟩:=S.out.rfreeze;have e1:qa=Ak/\qc=ck:=by simp only[Value.slice.injEq]at hv1;exact⟨hv1.1.symm,hv1.2.2.symm⟩
  obtain⟨rfl,rfl⟩:=e1;have HF:=Hd (nd4 hle1 hn1 hm1 hf1);clear S hle1 hn1 hm1 hf1 hv1 hm;have S:=Hd S3;clear S3;go_wp2_with (first|refine wk ?_|refine Ws ?_;clear S;intro W S)
  go_loopg [66] e.length (fun g s66 wr=>∃(i:Nat) (K:Gh) (A:OA) (c:Nat) (us:List V6) (T:List Blk),s66=.int .i64 (i:Nat)/\i<=e.length/\g=e.length -i/\us.length=i/\Hid (St M I K w wr ((y,L2f qa e.length qc A i c,.t 35)::(y0,L0c,.t 35)::T) [⟨.slice A i c,35,6,i,Q4l us⟩])/\Hid (K1.le K/\All2 (VIs K) us ((m.take i).map fun p=>p.2.iv)))
  case atStart=>exact⟨0,K1,none,0,[],_,rfl,Nat.zero_le _,rfl,rfl,S,Hd ⟨gR,.nil⟩⟩
  case round=>
   clear S;obtain⟨i,K,A,c,us,T,rfl,hi1,hg,hul,S,HW⟩:=hrel;by_cases hlt:i<e.length
   ·obtain⟨⟨key,v⟩,hv⟩:∃x,e[i]?=some x:=gx hlt;obtain⟨⟨key',t⟩,hx⟩:∃v,m[i]?=some v:=gx (by have:=HV.out.1;omega);obtain⟨b2,o2,rfl,hX0⟩:∃b o,qa=some (ad b o)/\K1.cell (ad b (o+i)) (.string key):=(by
     have hg1:((e.map (·.1)).map Value.string)[i]?=some (.string key):=by rw[List.getElem?_map,List.getElem?_map,hv];rfl
     rcases HF.out.2.2.2 with⟨_,h2⟩|⟨b,o,h1,h2⟩
     ·rw[h2]at hg1;simp at hg1
     ·exact⟨b,o,h1,h2 _ _ hg1⟩)
    have hX:=Hd (hX0.mono HW.out.1);have hle:J.le K:=gT HF.out.1 HW.out.1;have HX:=Hd (nd3 ((HV.out.2.2.1 _ _ _ hv hx).mono hle) (show t.bulk<N/\t.bulk<2 ^ 30 by have h1:1+ByteArray.size key'+t.bulk<=Q3m m:=Q4i (List.mem_of_getElem? hx);have h2:=HV.out.2.2.2.1;have h3:=HV.out.2.2.2.2.1;simp only[Tr.bulk]at h2 h3;omega) (Q1k hx));have HK:=Hd (nd3 (show ByteArray.size key<=maxLen by
     have h1:key=key':=by have h3:=congrArg (fun l=>l[i]?) HV.out.2.2.2.2.2;simp only[List.getElem?_map,hv,hx,Option.map_some,Option.some.injEq]at h3;exact h3
     have h2:1+ByteArray.size key'+t.bulk<=Q3m m:=Q4i (List.mem_of_getElem? hx);have h4:=HV.out.2.2.2.2.1;simp only[Tr.bulk]at h4;subst h1;unfold maxLen;omega) (HV.out.2.1.mono hle) (Q3g HV.out.2.1.sorted (List.mem_of_getElem? hv)))
    have hN:i+1<2 ^ 32:=by have h2:=HE.out;omega
    clear hx hv hX0;go_wp2_with (refine wlf hX.out S ?_)
    refine Rg S [(y,[.int .i64 6,.int .i64 0,.float .f64 0,.string ⟨#[]⟩,.slice (some (ad b2 o2)) e.length qc,.slice A i c],.t 35)] [] [9] [0,1,2,3,4] 5 fun W S=>?_;refine tk8 ?_;refine Wr [] 4 5 fun KK hKK=>?_;go_simp;have hcall:=IH K v t HX.out.1 HX.out.2.1.1 HX.out.2.1.2;refine Q0a S hcall ?_;clear hcall S;rintro r5 K5 L5 R5 W' hle5 ⟨rfl,rfl,x5,rfl,hx5⟩ S;have HA:=Hd (And.intro hx5 hle5);clear hx5;unfold V6.agg;replace S:=sa S;refine Yw [] 3 6 ?_;intro KK hKK;refine Q1s (sub:=x5.cells) S rfl underlying33 rfl ?_;unfold V6.cells;clear S;intro z W S;refine Yw [8] 1 7 ?_;intro KK hKK;refine Q1m S rfl rfl rfl underlying33 in35 rfl hN ?_;clear S;intro A1 c1 W S;refine Hk ?_;refine tk8 ?_;refine Cl 9 fun KK hKK=>?_;refine Q0j (v:=.slice A1 (i+1) c1) S rfl rfl rfl rfl ?_;clear S;intro W S;refine hKK.out _ _ (NoPanic.normal ?_);clear hKK KK;go_wp2_with fail
    go_roundg (e.length -(i+1))
    case measure=>omega
    case rel=>exact⟨i+1,K5,A1,c1,us++[x5],_,by simp,by omega,rfl,by simp[hul],(by rw[Q6w];exact Lib.front S [(y,[.int .i64 6,.int .i64 0,.float .f64 0,.string ⟨#[]⟩,.slice (some (ad b2 o2)) e.length qc,.slice A1 (i+1) c1],.t 35),(y0,L0c,.t 35)] [⟨.slice A1 (i+1) c1,35,6,i+1,Q4l us++(L0a x5)⟩]),Hd ⟨gT HW.out.1 HA.out.2,by rw[HX.out.2.2,List.map_append];exact Q1e (HW.out.2.imp fun _ _ h=>h.mono HA.out.2) HA.out.1⟩⟩
   ·have hi2:i=e.length:=by omega
    subst hi2;go_wp2_with (first|refine wk ?_|refine Ws ?_;clear S;intro W S)
    refine bT ?_;obtain⟨K2,pa,pc,hle2,hv2,hn2,hm2,hf2,S3⟩:=S.out.rfreeze;simp only[Value.slice.injEq,true_and]at hv2;obtain⟨rfl,rfl⟩:=hv2;have h2:=HW.out.2;rw[HV.out.1,List.take_length]at h2;have hl2:(ivM m).length=e.length:=by rw[Z0n,HV.out.1];simp
    have hl3:(m.map (·.1)).length=e.length:=by rw[HV.out.1];simp
    refine ap (L:=[]) (gT HF.out.1 (gT HW.out.1 hle2)) ⟨rfl,rfl,⟨6,0,0,⟨#[]⟩,qa,e.length,qc,A,e.length,c⟩,rfl,?_⟩ (show St _ _ _ _ _ _ _ from keep (Hd S3));have:=VIs.mk (I:=K2) 6 0 0 ⟨#[]⟩ qa qc (m.map (·.1)) A c us (ivM m) (Nat.zero_le _) (by rw[hl3];exact⟨HF.out.2.1,HF.out.2.2.1⟩) (fun k hk=>by
     obtain⟨p,hp,rfl⟩:=List.mem_map.1 hk;have h1:=Q4i hp;have h4:=HV.out.2.2.2.2.1;simp only[Tr.bulk]at h4;unfold maxLen;omega) (by rw[<-HV.out.2.2.2.2.2];exact strs_flat (HF.out.2.2.2.mono (gT HW.out.1 hle2))) (by rw[hl2];exact hul) (by rw[hl2];exact⟨hn2,hm2⟩) (X8b hf2) (fun i v x h3 h4=>(h2.get h3 (by rw[<-Z0n];exact h4)).mono hle2)
    rwa [hl2,hl3]at this
theorem ftr_all:∀N,FtrH N
 |0=>fun J v t _ h=>absurd h (Nat.not_lt_zero _)
 |N+1=>fun J v t hv hN hb=>ftr_t N (ftr_all N) hv om hb
theorem fromTree_s(h:Q0r J v t)(hb:t.bulk<2 ^ 30):Ac 218 #[v] J [] []<|N0 fun u K=>∃x:V6,u=x.agg/\VIs K x t.iv:=ftr_all _ J v t h (Nat.lt_succ_self _) hb
theorem z0q{P:Prop}(h:P:=by
 clear S;rintro r5 K5 L5 R5 W' hle5 ⟨rfl,rfl,x,rfl,hx⟩ S;have HX:=Hd (And.intro hx hle5);clear hx hle5;replace S:=sa S;unfold V6.agg;go_wp2_with (refine Ws ?_;clear S;intro W S)
 refine bT ?_;exact ap (L:=[]) HX.out.2 ⟨rfl,rfl,x,rfl,HX.out.1⟩ kp):P:=h
theorem X4s{vb:Nat}(hc:J.cell (ad vb 0) v)(h:Q0r J v t)(hb:t.bulk<2 ^ 30):Ac 162 #[Q3q vb] J [] []<|N0 fun u K=>∃x:V6,u=x.agg/\VIs K x t.iv:=by
 intro M I w W S;have HT:=Hd (nd3 hc h hb);have hv:=hc.at S.out.inw;clear hc h hb;unfold Q3q;go_enter func162,ntmps162;go_wp2_with (first|refine wk ?_|refine wn ?_;clear S hv;intro y W S;have hv:=HT.out.1.at S.out.inw|refine Ws ?_;clear S;intro W S|go_at_call 387;refine(Q0g (Q7d v _) S.out.inw).mono ?_;rintro e W' ⟨rfl,st⟩;replace S:=Hd (S.out.call st);clear st hv)
 refine Q0a S (fromTree_s HT.out.2.1 HT.out.2.2) ?_;exact z0q
theorem X5r{tb sb nb:Nat}(h:TvIs J tb sb nb t)(hb:t.bulk<2 ^ 30):Ac 107 #[pt tb] J [] []<|N0 fun u K=>∃x:V6,u=x.agg/\VIs K x t.iv:=by
 intro M I w W S;obtain⟨vb,v,h1,h2,h3⟩:=h;have HC:Hid (∀(i:Nat) x,(Q1n vb nb sb)[i]?=some x->J.cell (ad tb (0+i)) x):=Hd fun i x h=>⟨_,_,_,h1,rfl,by simpa using h⟩
 have HT:=Hd (nd3 h2 h3 hb);clear h1 h2 h3 hb;go_enter func107,ntmps107;go_wp2_with (first|refine wk ?_|refine wn ?_;clear S;intro y W S|refine X9l (sub:=Q1n vb nb sb) rf rfl rfl rfl HC.out S.out.inw ?_|go_at_call 130;refine got S (Z1k (vb:=vb) (nb:=nb) (sb:=sb)) ?_;clear S;intro W' S)
 refine Q0a S (X4s HT.out.1 HT.out.2.1 HT.out.2.2) ?_;exact z0q
theorem X1c:Ac 107 #[pn] J [] [] fun u K L' R'=>K=J/\L'=[]/\R'=[]/\u=V6.agg ⟨0,0,0,⟨#[]⟩,none,0,0,none,0,0⟩:=by
 intro M I w W S;go_enter func107,ntmps107;go_wp2_with (first|refine wk ?_|refine wn ?_;clear S;intro y W S|refine Ws ?_;clear S;intro W S)
 exact e0i
end
end Go.Proofs.YtbmklgemmjgjfaaGreat
