/- Part 23: Emp, Itr, Vpt, Vga, Fsn, Vts, Vtt. -/
import Derived.Test.YtbmklgemmjgjfaaGreatT19
import Derived.Test.YtbmklgemmjgjfaaGreatT22
namespace Go.Proofs.YtbmklgemmjgjfaaGreat
open List (append_assoc append_nil cons_append length_append length_cons length_map length_nil map_nil nil_append)
open Go.RowKit Go.Maps Tryz
set_option linter.unusedVariables false
set_option linter.unusedSimpArgs false
set_option maxRecDepth 100000
set_option maxHeartbeats 4000000
variable{I J:Gh}{PR:List Rw}{PB:List Blk}{n b c vb sb nb st al pc D:Nat}{bs:List Nat}{pa:OA}{s:FS}
section
variable{i:Nat}
theorem Q0u.ndC{A:OA}{ns:List (Nat×Nat)}(h:Q0u I A (ns.flatMap Q2p)){n:Nat×Nat}(hx:ns[i]?=some n):∃b o,A=some (ad b o)/\∀(j:Nat) u,(Q2p n)[j]?=some u->I.cell (ad b (o+i*5+j)) u:=by
 have g:∀j v,(Q2p n)[j]?=some v->(ns.flatMap Q2p)[i*5+j]?=some v:=fun j v hv=>Q3x (fun x=>Q6m x) hx hv;rcases h with⟨_,e⟩|⟨b,o,e,h⟩
 ·exact e1f
 ·exact⟨b,o,e,fun j v hv=>by rw[Nat.add_assoc];exact h _ _ (g j v hv)⟩
theorem psize_x(I:Gh)(b o:Nat)(m:List PE)(h:Z3c I b o m)(w:World)(hi:I.In w):Calls prog 160 #[.pointer (some (ad b o))] w (Got Nix I w (.int .i64 m.length)):=by
 obtain⟨a,c,bs,hA,_⟩:=h;refine Q0c (M:=Nix) hi ?_;intro W S;go_enter func160,ntmps160;go_wp2_with (refine wk ?_)
 go_ret;exact⟨rfl,S.out.step⟩
def EmpH(N:Nat):Prop:=∀(I:Gh) (b:Nat) (s:FS) (_:FSI I b s) (_:s.cnt<N) (_:s.cnt<2 ^ 30) (w:World) (_:I.In w),Calls prog 105 #[pt b] w (Got Nix I w (.bool s.bare))
theorem bareC_drop{c:List (PE×FS)}{p:PE×FS}(h:c[i]?=some p):Z3b (c.drop i)=(p.2.bare&&Z3b (c.drop (i+1))):=by
 obtain⟨e,s⟩:=p;rw[Q2t h,Z3b]
theorem kempty_x(N:Nat)(IH:EmpH N)(I:Gh)(b o:Nat)(c:List (PE×FS))(h:Z0k I b o c)(hN:FS.cnt.cntC c<=N)(hb:FS.cnt.cntC c<2 ^ 30)(w:World)(hi:I.In w):Calls prog 161 #[.pointer (some (ad b o))] w (Got Nix I w (.bool (Z3b c))):=by
 obtain⟨A,k,ns,hA,hk1,hk2,hf,hn⟩:=h;have HN:=Hd (nd3 hf hn IH);clear hf hn IH;have hcl:=Q7c c;refine Q0c (M:=Nix) hi ?_;intro W S;go_enter func161,ntmps161;go_wp2_with (refine wk ?_)
 go_loopg [10] c.length (fun g s10 wr=>∃i:Nat,s10=.int .i64 (i:Nat)/\i<=c.length/\g=c.length -i/\Hid (St Nix I I w wr [] [])/\Hid (Z3b c=Z3b (c.drop i)))
 case atStart=>exact⟨0,rfl,Nat.zero_le _,rfl,S,Hd b0f⟩
 case round=>
  clear S;obtain⟨i,rfl,hi1,hg,S,HB⟩:=hrel;by_cases h1:i<c.length
  ·obtain⟨p,hp⟩:∃p,c[i]?=some p:=gx h1;obtain⟨n,hx⟩:∃n,ns[i]?=some n:=gx (by have:=HN.out.2.1.length;omega);obtain⟨b1,o1,rfl,hX⟩:=HN.out.1.ndC hx;have HX:=Hd (nd3 (HN.out.2.1.get hx hp).2 (bareC_drop hp) (Q7i (List.mem_of_getElem? hp)));clear hx hp;go_wp2_with (first|refine X9l (sub:=[.pointer (some (ad n.1 0)),pn,pn,pn,.pointer (some (ad n.2 0))]) rf rfl rfl rfl hX S.out.inw ?_|refine wk ?_|refine Ws ?_;clear S;intro W S|refine wn ?_;clear S;intro y W S)
   refine(HN.out.2.2 I _ _ HX.out.1 (by have:=HX.out.2.2;omega) (by have:=HX.out.2.2;omega) _ S.out.inw).mono ?_;rintro e W2 ⟨rfl,st⟩;replace S:=Hd (S.out.pop.call st);clear st;obtain⟨f,hf⟩:∃f,f=p.2.bare:=⟨_,rfl⟩
   rw[<-hf];have HF:=Hd hf;clear hf;cases f with
   |true=>
    go_wp2_with fail
    go_roundg (c.length -(i+1))
    case measure=>omega
    case rel=>exact⟨i+1,rfl,by omega,rfl,S,Hd (by rw[HB.out,HX.out.2.1,<-HF.out];rfl)⟩
   |false=>
    go_wp2_with fail
    go_ret;exact⟨by rw[HB.out,HX.out.2.1,<-HF.out];rfl,S.out.step⟩
  ·have hi2:i=c.length:=by omega
   subst hi2;go_wp2_with fail
   go_ret;exact⟨by rw[HB.out];simp[Z3b],S.out.step⟩
theorem empty_t(N:Nat)(IH:EmpH N)(I:Gh)(b:Nat)(s:FS)(h:FSI I b s)(hN:s.cnt<=N)(hb:s.cnt<2 ^ 30)(w:World)(hi:I.In w):Calls prog 105 #[pt b] w (Got Nix I w (.bool s.bare)):=by
 cases s with|mk m c=>
 have HC:=Hd (And.intro h.inv hN);clear h hN;refine Q0c (M:=Nix) hi ?_;intro W S;go_enter func105,ntmps105;go_wp2_with fail
 refine got S (psize_x I b 0 m HC.out.1.1) ?_;clear S;intro W2 S;cases m with
 |cons a m=>
  have hd:decide (0<((a::m).length:Int))=true:=by simp
  go_wp2_with fail
  go_ret;exact⟨by simp[FS.bare],S.out.step⟩
 |nil=>
  go_wp2_with fail
  refine(kempty_x N IH I b 1 c HC.out.1.2 (by have:=HC.out.2;simp only[FS.cnt]at this;omega) (by simp only[FS.cnt]at hb;omega) _ S.out.inw).mono ?_;rintro e W2 ⟨rfl,st⟩;replace S:=Hd (S.out.call st);clear st;go_wp2_with fail
  go_ret;exact⟨by simp[FS.bare],S.out.step⟩
theorem emp_all:∀N,EmpH N
 |0=>fun I b s h hN=>absurd hN (Nat.not_lt_zero _)
 |N+1=>fun I b s h hN hb w hi=>empty_t N (emp_all N) I b s h om hb w hi
theorem Z3g{b:Nat}{s:FS}(h:FSI I b s)(hb:s.cnt<2 ^ 30)(w:World)(hi:I.In w):Calls prog 105 #[pt b] w (Got Nix I w (.bool s.bare)):=emp_all _ I b s h (Nat.lt_succ_self _) hb w hi
end
section
abbrev pathRw(pa:OA)(n pc:Nat)(bs:List Nat):Rw:=⟨.slice pa n pc,358,4,n,bs.flatMap Q0i⟩
def X9j(F:FuncId)(caps:Array Value)(Inv:List (List PE)->Gh->List Blk->List Rw->Prop):Prop:=∀(K:Gh) (L:List Blk) (R:List Rw) (done:List (List PE)) (p:List PE) (pa:OA) (pc:Nat) (bs:List Nat),Inv done K L R->All2 (Nm K) bs p->p.length<2 ^ 30->done.length<2 ^ 30->
 Ac F (#[.slice pa p.length pc]++caps) K L (pathRw pa p.length pc bs::R) fun u K2 L2 R2=>u=.tuple #[]/\∃R3,R2=pathRw pa p.length pc bs::R3/\Inv (done++[p]) K2 L2 R3
theorem Q1k{α:Type}{l:List α}{i:Nat}{x:α}(h:l[i]?=some x):l.take (i+1)=l.take i++[x]:=by
 rw[List.take_add_one,h];rfl
section
variable{F:FuncId}{caps:Array Value}{Inv:List (List PE)->Gh->List Blk->List Rw->Prop}
theorem z0y{P:Prop}(h:P:=by
 have e1:(bs++[x]).flatMap Q0i=bs.flatMap Q0i++(L1m x):=by simp[Q0i]
 simp only[pathRw,e1]at h1;refine h1.perm (Q2x fun p=>?_) (Q2x fun p=>?_)
 ·exact e0r
 ·simp only[List.countP_cons,List.countP_append,List.countP_nil,Nat.zero_add,Nat.add_zero];ac_rfl):P:=h
theorem iter1_s{K:Gh}{L:List Blk}{R:List Rw}{done:List (List PE)}{q:List PE}{qa:OA}{qc:Nat}{bs:List Nat}{x bq bf:Nat}{e:PE}(hF:∀(args:Array Value) (w:World),(callFunc F args).run prog w=.ok (.enter F args) w)(hP:X9j F caps Inv)(hI:Inv done K L R)(hq:All2 (Nm K) bs q)(hx:Nm K x e)(hb:q.length<2 ^ 29)(hd:done.length<2 ^ 30):
  Ac 225 #[Q3u x,pt bf,pt bq] K ((bq,[.slice qa q.length qc],.t 251)::(bf,[.func (.func F) #[] caps],.t 261)::L) (pathRw qa q.length qc bs::R)
   fun u K2 L2 R2=>u=.tuple #[]/\∃L3 R3,L2=(bq,[.slice qa q.length qc],.t 251)::(bf,[.func (.func F) #[] caps],.t 261)::L3/\R2=pathRw qa q.length qc bs::R3/\Inv (done++[q++[e]]) K2 L3 R3:=by
 intro M I w W S;have HP:=Hd (nd5 hI hq hx hb hP);clear hI hq hx hP;unfold Q3u;go_enter func225,ntmps225;go_wp2_with (first|refine wk ?_|refine Ws ?_;clear S;intro W S|refine wn ?_;clear S;intro y W S)
 refine Rg S [(bq,[.slice qa q.length qc],.t 251),(bf,[.func (.func F) #[] caps],.t 261),(y,L1m x,.t 358)] [] [] [0,1,2] 3 fun W S=>?_;refine Zw [] 2 3 ?_;intro KK hKK;refine Q1s S rfl underlying251 rfl ?_;clear S;intro y1 W S;refine Yw [] 1 4 ?_;intro KK hKK;refine wq_appK S rfl rfl rfl underlying251 Q4v rfl om ?_;clear S;intro A1 c1 E W hback S;refine Yw [] 0 5 ?_;intro KK hKK;go_simp;have hbs2:Hid (St M I K w W ((y1,L1m x,.t 358)::(y,L1m x,.t 358)::(bq,[.slice qa q.length qc],.t 251)::(bf,[.func (.func F) #[] caps],.t 261)::L) (⟨.slice A1 (q++[e]).length c1,358,4,(q++[e]).length,(bs++[x]).flatMap Q0i⟩::(E++R))):=Hd b1i;have hcall:=HP.out.2.2.2.2 K L R done (q++[e]) A1 c1 (bs++[x]) HP.out.1 (Q1e HP.out.2.1 HP.out.2.2.1) b1r hd;simp only[length_append,length_cons,length_nil,Nat.zero_add]at hcall hbs2;refine Q0a hbs2 hcall ?_;rintro r K2 L' R' W' hle ⟨rfl,R3,rfl,hI⟩ S2;clear S hbs2 hcall;have S:=S2;clear S2;refine Ey ?_;refine bodyPost_end (results_none rfl _ _ _) rfl ?_;have S3:St M I K2 w W' ((bq,[.slice qa q.length qc],.t 251)::(bf,[.func (.func F) #[] caps],.t 261)::L') (pathRw qa q.length qc bs::R3):=hback (by
  have h1:St M I K2 w W' (L'++[(y1,L1m x,.t 358),(y,L1m x,.t 358),(bq,[.slice qa q.length qc],.t 251),(bf,[.func (.func F) #[] caps],.t 261)]) (pathRw A1 (q.length+1) c1 (bs++[x])::R3++(E++[])):=S.out;have h2:St M I K2 w W' ([(y1,L1m x,.t 358),(y,L1m x,.t 358)]++((bq,[.slice qa q.length qc],.t 251)::(bf,[.func (.func F) #[] caps],.t 261)::L')) (⟨.slice A1 (q.length+1) c1,358,4,q.length+1,bs.flatMap Q0i++(L1m x)⟩::(E++R3)):=by
   exact z0y
  exact h2.dropL)
 exact ap hle ⟨rfl,L',R3,rfl,rfl,hI⟩ S3
theorem iterL_s{K:Gh}{L:List Blk}{R:List Rw}{done:List (List PE)}{q:List PE}{qa:OA}{qc:Nat}{bs:List Nat}{b o bq bf:Nat}{m:List PE}(hF:∀(args:Array Value) (w:World),(callFunc F args).run prog w=.ok (.enter F args) w)(hP:X9j F caps Inv)(hI:Inv done K L R)(hq:All2 (Nm K) bs q)(hm:Z3c K b o m)(hb:q.length<2 ^ 29)(hml:m.length<2 ^ 30)(hd:done.length+m.length<2 ^ 30):
  Ac 224 #[.pointer (some (ad b o)),.func (.func 225) #[] #[pt bf,pt bq]] K ((bq,[.slice qa q.length qc],.t 251)::(bf,[.func (.func F) #[] caps],.t 261)::L) (pathRw qa q.length qc bs::R)
   fun u K2 L2 R2=>u=.tuple #[]/\∃L3 R3,L2=(bq,[.slice qa q.length qc],.t 251)::(bf,[.func (.func F) #[] caps],.t 261)::L3/\R2=pathRw qa q.length qc bs::R3/\Inv (done++m.map fun e=>q++[e]) K2 L3 R3:=by
 intro M I w W S;obtain⟨A,c,es,hA0,hc1,hc2,hbm,hf⟩:=hm;have HN:=Hd (nd4 hbm hf hq hA0);clear hbm hf hq;have hA:=hA0;clear hA0;go_enter func224,ntmps224;go_wp2_with (first|refine wk ?_|refine Ws ?_;clear S;intro W S|refine wn ?_;clear S;intro y W S)
 clear hA;go_loopg [11] m.length (fun g s11 wr=>∃(i:Nat) (K':Gh) (T L':List Blk) (R':List Rw),s11=.int .i64 (i:Nat)/\i<=m.length/\g=m.length -i/\Hid (St M I K' w wr (T++((bq,[.slice qa q.length qc],.t 251)::(bf,[.func (.func F) #[] caps],.t 261)::L')) (pathRw qa q.length qc bs::R'))/\Hid (K.le K'/\Inv (done++(m.take i).map fun e=>q++[e]) K' L' R'))
 case atStart=>exact⟨0,K,[],L,R,rfl,Nat.zero_le _,rfl,S,Hd ⟨gR,by simpa using hI⟩⟩
 case round=>
  clear S;obtain⟨i,K',T,L',R',rfl,hi1,hg,S,HV⟩:=hrel;by_cases h1:i<m.length
  ·obtain⟨e,hp⟩:∃e,m[i]?=some e:=gx h1;obtain⟨x,hx⟩:∃x,es[i]?=some x:=gx (by have:=HN.out.1.length;omega);obtain⟨b1,o1,rfl,hX⟩:=(HN.out.2.1.mono HV.out.1).peC hx;have HX:=Hd (And.intro ((HN.out.1.get hx hp).mono HV.out.1) (Q1k hp));clear hx hp;go_wp2_with (first|refine X9l (sub:=(L1m x)) rf rfl rfl rfl hX S.out.inw ?_|refine wk ?_|refine Ws ?_;clear S;intro W S|refine wn ?_;clear S;intro y W S)
   refine Q0a S (iter1_s (qa:=qa) (qc:=qc) (bq:=bq) (bf:=bf) hF hP HV.out.2 (HN.out.2.2.1.imp fun _ _ k=>k.mono HV.out.1) HX.out.1 hb (by simp only[length_append,length_map,List.length_take];omega)) ?_;rintro r K2 L2 R2 W' hle ⟨rfl,L3,R3,rfl,rfl,hI2⟩ S2;clear S;have S:=S2;clear S2;go_wp2_with fail
   go_roundg (m.length -(i+1))
   case measure=>omega
   case rel=>
    refine⟨i+1,K2,(y,L1m x,.t 358)::T,L3,R3,rfl,by omega,rfl,Hd (S.out.perm (Q2x fun p=>?_) (Q2x fun p=>?_)),Hd ⟨gT HV.out.1 hle,by rw[HX.out.2,List.map_append,<-append_assoc];exact hI2⟩⟩
    ·exact e0r
    ·simp only[List.countP_cons,List.countP_append,List.countP_nil,Nat.zero_add,Nat.add_zero]
  ·have hi2:i=m.length:=by omega
   subst hi2;go_wp2_with fail
   refine bodyPost_end (results_none rfl _ _ _) rfl ?_;exact ap HV.out.1 ⟨rfl,L',R',rfl,rfl,by have:=HV.out.2;rwa [List.take_length]at this⟩ S.out.dropL
def IterH(F:FuncId)(caps:Array Value)(Inv:List (List PE)->Gh->List Blk->List Rw->Prop)(N:Nat):Prop:=∀(K:Gh) (L:List Blk) (R:List Rw) (done:List (List PE)) (q:List PE) (qa:OA) (qc:Nat) (bs:List Nat) (b:Nat) (s:FS),Inv done K L R->FSI K b s->s.cnt<N->q.length+s.cnt<2 ^ 29->done.length+s.cnt<2 ^ 30->All2 (Nm K) bs q->
 Ac 173 #[pt b,.slice qa q.length qc,.func (.func F) #[] caps] K L (pathRw qa q.length qc bs::R) fun u K2 L2 R2=>u=.tuple #[]/\∃R3,R2=pathRw qa q.length qc bs::R3/\Inv (done++s.all.map (q++·)) K2 L2 R3
end
section
variable{F:FuncId}{caps:Array Value}{Inv:List (List PE)->Gh->List Blk->List Rw->Prop}
mutual
theorem all_len:∀s:FS,s.all.length<=s.cnt
 |.mk m c=>by have:=Z9n c;simp only[FS.all,FS.cnt,length_append,length_map];omega
theorem Z9n:∀c:List (PE×FS),(allC c).length<=FS.cnt.cntC c
 |[]=>Nat.zero_le _
 |(e,s)::c=>by have:=all_len s;have:=Z9n c;simp only[allC,FS.cnt.cntC,length_append,length_map];omega
end
theorem X7z:∀{c:List (PE×FS)} {i:Nat} {e:PE} {s:FS},c[i]?=some (e,s)->FS.cnt.cntC (c.take i)+1+s.cnt<=FS.cnt.cntC c
 |[],i,e,s,h=>by simp at h
 |(a,t)::c,0,e,s,h=>by
  simp at h;obtain⟨rfl,rfl⟩:=h;simp only[List.take_zero,FS.cnt.cntC];omega
 |(a,t)::c,i+1,e,s,h=>by
  have:=X7z (c:=c) (i:=i) b0b;simp only[List.take_succ_cons,FS.cnt.cntC];omega
theorem allC_take{c:List (PE×FS)}{i:Nat}{e:PE}{s:FS}(h:c[i]?=some (e,s)):allC (c.take (i+1))=allC (c.take i)++s.all.map (e::·):=by
 rw[Q1k h];have key:∀l:List (PE×FS),allC (l++[(e,s)])=allC l++s.all.map (e::·):=fun l=>by
  induction l with
  |nil=>simp[allC]
  |cons p l ih=>obtain⟨a,u⟩:=p;rw[cons_append,allC,allC,ih,append_assoc]
 exact key _
theorem iterC_s(N:Nat)(IH:IterH F caps Inv N){K:Gh}{L:List Blk}{R:List Rw}{done:List (List PE)}{q:List PE}{qa:OA}{qc:Nat}{bs:List Nat}{b o:Nat}{c:List (PE×FS)}(hI:Inv done K L R)(hq:All2 (Nm K) bs q)(hm:Z0k K b o c)(hN:FS.cnt.cntC c<=N)(hb:q.length+FS.cnt.cntC c<2 ^ 29)(hd:done.length+FS.cnt.cntC c<2 ^ 30):
  Ac 226 #[.pointer (some (ad b o)),.slice qa q.length qc,.func (.func F) #[] caps] K L (pathRw qa q.length qc bs::R)
   fun u K2 L2 R2=>u=.tuple #[]/\∃R3,R2=pathRw qa q.length qc bs::R3/\Inv (done++(allC c).map (q++·)) K2 L2 R3:=by
 intro M I w W S;obtain⟨A,k,ns,hA,hc1,hc2,hf,hbm⟩:=hm;have HN:=Hd (nd4 hbm hf hq IH);have hcl:=Q7c c;clear hbm hf hq IH;go_enter func226,ntmps226;go_wp2_with (first|refine wk ?_|refine Ws ?_;clear S;intro W S|refine wn ?_;clear S;intro y W S)
 clear hA;go_loopg [14] c.length (fun g s14 wr=>∃(i:Nat) (K':Gh) (T L':List Blk) (R':List Rw),s14=.int .i64 (i:Nat)/\i<=c.length/\g=c.length -i/\Hid (St M I K' w wr (T++L') (pathRw qa q.length qc bs::R'))/\Hid (K.le K'/\Inv (done++(allC (c.take i)).map (q++·)) K' L' R'))
 case atStart=>exact⟨0,K,[],L,R,rfl,Nat.zero_le _,rfl,S,Hd ⟨gR,by simpa[allC]using hI⟩⟩
 case round=>
  clear S;obtain⟨i,K',T,L',R',rfl,hi1,hg,S,HV⟩:=hrel;by_cases h1:i<c.length
  ·obtain⟨⟨e,s1⟩,hp⟩:∃p,c[i]?=some p:=gx h1;obtain⟨⟨x,cb⟩,hx⟩:∃n,ns[i]?=some n:=gx (by have:=HN.out.1.length;omega);obtain⟨b1,o1,rfl,hX⟩:=(HN.out.2.1.mono HV.out.1).ndC hx;have HX:=Hd (nd4 ((HN.out.1.get hx hp).1.mono HV.out.1) ((HN.out.1.get hx hp).2.mono HV.out.1) (show s1.cnt<N/\q.length+1+s1.cnt<2 ^ 29/\done.length+(allC (c.take i)).length+s1.cnt<2 ^ 30 from by have h1:=Q7i (List.mem_of_getElem? hp);have h2:=X7z hp;have h3:=Z9n (c.take i);simp only at h1 h2;omega) (allC_take hp));clear hx hp;go_wp2_with (first|refine X9l (sub:=[pt x,pn,pn,pn,pt cb]) rf rfl rfl rfl hX S.out.inw ?_|refine wk ?_|refine Ws ?_;clear S;intro W S|refine wn ?_;clear S;(first|(fail_if_success revert y);intro y W S|intro y2 W S))
   refine Rg S [(y2,L1m x,.t 358),(y,[pt x,pn,pn,pn,pt cb],.t 423)] [] [] [0,1,2,3,6] 3 fun W S=>?_;refine Zw [] 2 4 ?_;intro KK hKK;refine Q1s S rfl underlying251 rfl ?_;clear S;intro y1 W S;refine Yw [] 1 5 ?_;intro KK hKK;refine wq_appK S rfl rfl rfl underlying251 Q4v rfl om ?_;clear S;intro A1 c1 E W hback S;refine Yw [] 0 7 ?_;intro KK hKK;go_simp;have hbs2:Hid (St M I K' w W ((y1,L1m x,.t 358)::(y2,L1m x,.t 358)::(y,[pt x,pn,pn,pn,pt cb],.t 423)::(T++L')) (⟨.slice A1 (q++[e]).length c1,358,4,(q++[e]).length,(bs++[x]).flatMap Q0i⟩::(E++R'))):=Hd b1i;have hcall:=HN.out.2.2.2 K' L' R' (done++(allC (c.take i)).map (q++·)) (q++[e]) A1 c1 (bs++[x]) cb s1 HV.out.2 HX.out.2.1 HX.out.2.2.1.1 (by have:=HX.out.2.2.1.2.1;simp;omega) (by have:=HX.out.2.2.1.2.2;simp only[List.length_append,List.length_map];omega) (Q1e (HN.out.2.2.1.imp fun _ _ k=>k.mono HV.out.1) HX.out.1);simp only[List.length_append,List.length_cons,List.length_nil,Nat.zero_add]at hcall hbs2;refine Q0a hbs2 hcall ?_;rintro r K2 L2' R2' W' hle ⟨rfl,R3,rfl,hI⟩ S2;clear S hbs2 hcall;have S:=S2;clear S2;refine Ey ?_;go_wp2_with fail
   have S3:St M I K2 w W' ([(y2,L1m x,.t 358),(y,[pt x,pn,pn,pn,pt cb],.t 423)]++T++L2') (pathRw qa q.length qc bs::R3):=hback (by
    have h1:St M I K2 w W' (L2'++[(y1,L1m x,.t 358),(y2,L1m x,.t 358),(y,[pt x,pn,pn,pn,pt cb],.t 423)]++(T++[])) (pathRw A1 (q.length+1) c1 (bs++[x])::R3++(E++[])):=by have:=S.out;simpa only[List.append_assoc,List.cons_append,List.nil_append]using this
    have h2:St M I K2 w W' ([(y1,L1m x,.t 358)]++([(y2,L1m x,.t 358),(y,[pt x,pn,pn,pn,pt cb],.t 423)]++T++L2')) (⟨.slice A1 (q.length+1) c1,358,4,q.length+1,bs.flatMap Q0i++(L1m x)⟩::(E++R3)):=by
     exact z0y
    exact h2.dropL)
   go_roundg (c.length -(i+1))
   case measure=>omega
   case rel=>
    refine⟨i+1,K2,_,L2',R3,by simp,by omega,rfl,Hd S3,Hd ⟨gT HV.out.1 hle,?_⟩⟩;rw[HX.out.2.2.2,List.map_append,<-List.append_assoc];have e2:(s1.all.map (e::·)).map (q++·)=s1.all.map ((q++[e])++·):=by rw[List.map_map];exact List.map_congr_left fun p _=>by simp
    rw[e2];exact hI
  ·have hi2:i=c.length:=by omega
   subst hi2;go_wp2_with fail
   refine bodyPost_end (results_none rfl _ _ _) rfl ?_;exact ap HV.out.1 ⟨rfl,R',rfl,by have:=HV.out.2;rwa [List.take_length]at this⟩ S.out.dropL
theorem iter_t(hF:∀(args:Array Value) (w:World),(callFunc F args).run prog w=.ok (.enter F args) w)(hP:X9j F caps Inv)(N:Nat)(IH:IterH F caps Inv N){K:Gh}{L:List Blk}{R:List Rw}{done:List (List PE)}{q:List PE}{qa:OA}{qc:Nat}{bs:List Nat}{b:Nat}{s:FS}(hI:Inv done K L R)(hs:FSI K b s)(hN:s.cnt<=N)(hb:q.length+s.cnt<2 ^ 29)(hd:done.length+s.cnt<2 ^ 30)(hq:All2 (Nm K) bs q):
  Ac 173 #[pt b,.slice qa q.length qc,.func (.func F) #[] caps] K L (pathRw qa q.length qc bs::R) fun u K2 L2 R2=>u=.tuple #[]/\∃R3,R2=pathRw qa q.length qc bs::R3/\Inv (done++s.all.map (q++·)) K2 L2 R3:=by
 cases s with|mk m c=>
 intro M I w W S;have HB:=Hd (nd6 hI hs.inv hq hN hb hd);clear hI hs hq hN hb hd;go_enter func173,ntmps173;go_wp2_with (first|refine wk ?_|refine wl_boxV (v:=.slice qa q.length qc) S rfl rfl rfl rfl ?_;clear S;(try clear W);intro bq W S|refine wl_boxV (v:=.func (.func F) #[] caps) S rfl rfl rfl rfl ?_;clear S;(try clear W);intro bf W S)
 refine Q0a S (iterL_s (qa:=qa) (qc:=qc) (bq:=bq) (bf:=bf) hF hP HB.out.1 HB.out.2.2.1 HB.out.2.1.1 b1u b1u (by have:=HB.out.2.2.2.2.2;simp only[FS.cnt]at this;omega)) ?_;rintro r K1 L2 R2 W' l1 ⟨rfl,L3,R3,rfl,rfl,hI2⟩ S2;simp only[cons_append,append_nil]at S2;clear S;have S:=S2;clear S2;go_wp2_with fail
 refine Rg S [(bq,[.slice qa q.length qc],.t 251),(bf,[.func (.func F) #[] caps],.t 261)] [] [] [0,1,2,3,4] 1 fun W S=>?_;refine Zw [] 0 5 ?_;intro KK hKK;go_simp;refine Q0a S (iterC_s (qa:=qa) (qc:=qc) N IH hI2 (HB.out.2.2.1.imp fun _ _ k=>k.mono l1) (HB.out.2.1.2.mono l1) (by have:=HB.out.2.2.2.1;simp only[FS.cnt]at this;omega) b1u (by have:=HB.out.2.2.2.2.2;simp only[FS.cnt]at this;simp only[length_append,length_map];omega)) ?_;rintro r K2 L4 R5 W' l2 ⟨rfl,R4,rfl,hI3⟩ S2;clear S;have S:=S2;clear S2;refine Ey ?_;go_wp2_with fail
 refine bodyPost_end (results_none rfl _ _ _) rfl ?_;refine ap (L:=L4) (gT l1 l2) ⟨rfl,R4,rfl,?_⟩ ?_;rotate_left
 ·have h1:St M I K2 w W' (L4++[(bq,[.slice qa q.length qc],.t 251),(bf,[.func (.func F) #[] caps],.t 261)]) (pathRw qa q.length qc bs::R4):=by have:=S.out;simpa only[append_nil,cons_append,nil_append]using this
  exact(h1.lperm List.perm_append_comm).dropL (L:=[_,_])
 ·rw[FS.all,List.map_append,List.map_map,<-append_assoc];exact hI3
theorem X7h(hF:∀(args:Array Value) (w:World),(callFunc F args).run prog w=.ok (.enter F args) w)(hP:X9j F caps Inv):∀N,IterH F caps Inv N
 |0=>fun K L R done q qa qc bs b s _ _ h=>absurd h (Nat.not_lt_zero _)
 |N+1=>fun K L R done q qa qc bs b s hI hs hN hb hd hq=>iter_t hF hP N (X7h hF hP N) hI hs om hb hd hq
theorem X3g(hF:∀(args:Array Value) (w:World),(callFunc F args).run prog w=.ok (.enter F args) w)(hP:X9j F caps Inv){K:Gh}{L:List Blk}{R:List Rw}{b:Nat}{s:FS}(hI:Inv [] K L R)(hs:FSI K b s)(hb:s.cnt<2 ^ 29):
  Ac 115 #[pt b,.func (.func F) #[] caps] K L R fun u K2 L2 R2=>u=.tuple #[]/\Inv s.all K2 L2 R2:=by
 intro M I w W S;have HB:=Hd (nd3 hI hs hb);clear hI hs hb;go_enter func115,ntmps115;go_wp2_with (refine Q0q (t:=251) (e:=358) S (Q0b rf _) rf underlying251 kr 4 ?_;clear S;(try clear W);intro y W S)
 have hcall:=X7h hF hP _ K L R [] [] (some (ad y 0)) 0 [] b s HB.out.1 HB.out.2.1 (Nat.lt_succ_self _) (by have:=HB.out.2.2;simp;omega) (by have:=HB.out.2.2;simp;omega) .nil;simp only[pathRw,length_nil,List.flatMap_nil]at hcall;refine Q0a S hcall ?_;rintro r K1 L2 R2 W' l1 ⟨rfl,R3,rfl,hI2⟩ S2;clear S;have S:=S2;clear S2;go_wp2_with fail
 refine bodyPost_end (results_none rfl _ _ _) rfl ?_;refine ap l1 ⟨rfl,by simpa using hI2⟩ ?_;have:=S.out;simp only[append_nil,cons_append,nil_append]at this;exact this.rpop
end
end
section
variable{R:List Rw}{L:List Blk}{w W:World}{M:Nat->Prop}
theorem Lib.row1{R0:List Rw}(S:Hid (St M I J w W L R))(r:Rw)[i:Sl R r R0]:Hid (St M I J w W L (r::R0)):=S.out.perm (List.Perm.refl _) i.h
theorem lastfront4{α:Type}(n o p q z:α)(ms:List α):(z::n::o::p::q::ms).Perm (n::o::p::q::(ms++[z])):=by
 refine Q2x fun f=>?_;exact e0r
variable{T e:TypeId}{b2 g x np:Nat}{p q:Blk}
theorem St.lastfront4{n o:Blk}{cs:List Value}{ms:List Blk}(S:St M I J w W (n::o::p::q::(ms++[wblk T (b,cs)])) R):St M I J w W ((b,cs,.t T)::n::o::p::q::ms) R:=
 S.lperm (Go.Proofs.YtbmklgemmjgjfaaGreat.lastfront4 n o p q _ ms)
variable{ws:List (Nat×List Value)}{c2:List Value}
theorem Z4u{y:Blk}{v:Value}{r:Rw}(S:Hid (St M I J w W (y::p::(b2,c2,.t T)::q::ws.map (wblk T)) [⟨v,e,1,n,ws.map wptr++[pt b2]⟩,r])):
  St M I J w W (p::q::(ws++[(b2,c2)]).map (wblk T)) [r,⟨v,e,1,n,(ws++[(b2,c2)]).map wptr⟩]:=by
 rw[List.map_append,List.map_append];exact(St.lperm (St.dropL (L:=[y]) S.out) (X7i _ _ _ _)).rperm (List.Perm.swap _ _ _)
theorem Q4f(bs:List Nat)(x:Nat):(bs++[x]).flatMap Q0i=bs.flatMap Q0i++(L1m x):=by simp[Q0i]
theorem St.pathcut(S:St M I J w W L (pathRw (some ⟨g,0,Option.none⟩) (n+1) c (bs++[x])::R))(hn:bs.length=n):St M I J w W L (pathRw (some ⟨g,0,Option.none⟩) n c bs::R):=by
 rw[pathRw,Q4f]at S;refine S.shrink (Nat.le_succ n) ?_;rw[<-hn];clear S hn;induction bs with
 |nil=>rfl
 |cons a l ih=>simp only[List.flatMap_cons,length_append,Q3l,length_cons,ih];omega
theorem Z0g{size m:Nat}{A:OA}{xs:List Value}(S:St M I J w W L (⟨.slice A (n+1) c,e,size,m,xs⟩::R))(hm:m=n+1):∃g,A=some (ad g 0)/\n<=c:=by
 subst hm;rcases(S.row .head).2 with⟨hh,_⟩|⟨g,cap,cur,hh,h0,hg,h1,_⟩
 ·cases hh
 ·injection hh with e1 e2 e3;exact⟨g,e1,by omega⟩
theorem list12{l:List Value}(h:l.length=12):∃ca cb cc cd ce cf cg ch ci cj ck cl,l=[ca,cb,cc,cd,ce,cf,cg,ch,ci,cj,ck,cl]:=by
 match l,h with
 |[ca,cb,cc,cd,ce,cf,cg,ch,ci,cj,ck,cl],_=>exact⟨ca,cb,cc,cd,ce,cf,cg,ch,ci,cj,ck,cl,rfl⟩
theorem row_lastw{N:Nat}(hN:ws.length=N)(W:World)(h:Vw J L [⟨.slice (some (ad g 0)) (N+1) c,e,1,N+1,ws.map wptr++[wptr (b2,c2)]⟩] W):W.cell? (ad g N)=some (pt b2):=by
 exact e1b
theorem tprep_s{nb2:Nat}{sp:OA}(hp:Pool 377 643 370 12 n sp PB PR)(hn:n<2 ^ 30)(hnp:np<2 ^ 30):
  Ac 402 #[pt b,Q3u x,Q0v nb2] J ((b,L0v vb sb nb st pa np pc sp al,.t 377)::PB) (pathRw pa np pc bs::PR) fun u K L' R'=>K=J/\∃b2 P PB' A1 c1 PR',u=pt b2/\Q3b sp (some (ad P 0))/\Pool 377 643 370 12 (n -1) (some (ad P 0)) PB' PR'/\L'=(b,L0f vb sb nb st pa np pc P al,.t 377)::(b2,L0f vb sb nb2 st A1 (np+1) c1 P al,.t 377)::PB'/\R'=pathRw A1 (np+1) c1 (bs++[x])::PR':=by
 unfold Q0v Q3u;intro M I w W S;have HN:=Hd (And.intro hn hnp);clear hnp;cases hp with
 |nil=>
  clear hn;go_enter func402,ntmps402;go_wp2_with (first|refine wk ?_|refine Ws ?_;clear S;intro W S|refine Q0q (t:=643) (e:=370) S (Q0b rf _) rf underlying643 kr 1 ?_;clear S;intro ys W S|refine wn ?_;clear S;(first|(fail_if_success revert ye);intro ye W S|(fail_if_success revert y);intro y W S|(fail_if_success revert P);intro P W S|intro y2 W S))
  replace S:=Lib.row1 S ⟨.slice pa np pc,358,4,np,bs.flatMap Q0i⟩;refine Rg S [(y2,L0f vb sb nb2 st pa np pc P al,.t 377),(ye,L1m x,.t 358)] [] [10] [0,1,2,3,4,5] 5 fun W S=>?_;refine Zw [] 4 6 ?_;intro KK hKK;refine Q1s S rfl underlying251 rfl ?_;clear S;intro ye1 W S;refine Yw [8,9] 1 7 ?_;intro KK hKK;refine Q1m S rfl rfl rfl underlying251 Q4v rfl b1e ?_;clear S;intro A1 c1 W S;refine Ht ?_;refine Cl 10 fun KK hKK=>?_;refine Q0j (v:=.slice A1 (np+1) c1) S rfl rfl rfl rfl ?_;clear S;intro W S;refine hKK.out _ _ (NoPanic.normal ?_);clear hKK KK;go_wp2_with (first|refine wk ?_|refine Ws ?_;clear S;intro W S|refine Q0q (t:=643) (e:=370) S (Q0b rf _) rf underlying643 kr 1 ?_;clear S;intro ys W S|refine wn ?_;clear S;(first|(fail_if_success revert ye);intro ye W S|(fail_if_success revert y);intro y W S|(fail_if_success revert P);intro P W S|intro y2 W S))
  go_ret;refine ap gR ⟨rfl,y2,P,_,A1,c1,_,rfl,.none,.empty P (some (ad ys 0)) 0,rfl,rfl⟩ ?_;simp only[pathRw,Q4f];exact(show St _ _ _ _ _ ((b,L0f vb sb nb st pa np pc P al,.t 377)::(y2,L0f vb sb nb2 st A1 (np+1) c1 P al,.t 377)::[(P,[.slice (some (ad ys 0)) 0 0],.t 643)]) (⟨.slice A1 (np+1) c1,358,4,np+1,bs.flatMap Q0i++(L1m x)⟩::[⟨.slice (some (ad ys 0)) 0 0,370,1,0,[]⟩])from keep S)
 |some P A c ws h=>
  rcases List.eq_nil_or_concat ws with rfl|⟨wi,⟨b2,c2⟩,rfl⟩
  ·clear hn;go_enter func402,ntmps402;simp only[length_nil,map_nil]at S;go_wp2_with (first|refine wk ?_|refine Ws ?_;clear S;intro W S|refine Q0q (t:=643) (e:=370) S (Q0b rf _) rf underlying643 kr 1 ?_;clear S;intro ys W S|refine wn ?_;clear S;(first|(fail_if_success revert ye);intro ye W S|(fail_if_success revert y);intro y W S|(fail_if_success revert P);intro P W S|intro y2 W S))
   replace S:=Lib.row1 S ⟨.slice pa np pc,358,4,np,bs.flatMap Q0i⟩;refine Rg S [(y2,L0f vb sb nb2 st pa np pc P al,.t 377),(ye,L1m x,.t 358)] [] [10] [0,1,2,3,4,5] 5 fun W S=>?_;refine Zw [] 4 6 ?_;intro KK hKK;refine Q1s S rfl underlying251 rfl ?_;clear S;intro ye1 W S;refine Yw [8,9] 1 7 ?_;intro KK hKK;refine Q1m S rfl rfl rfl underlying251 Q4v rfl b1e ?_;clear S;intro A1 c1 W S;refine Ht ?_;refine Cl 10 fun KK hKK=>?_;refine Q0j (v:=.slice A1 (np+1) c1) S rfl rfl rfl rfl ?_;clear S;intro W S;refine hKK.out _ _ (NoPanic.normal ?_);clear hKK KK;go_wp2_with (first|refine wk ?_|refine Ws ?_;clear S;intro W S|refine Q0q (t:=643) (e:=370) S (Q0b rf _) rf underlying643 kr 1 ?_;clear S;intro ys W S|refine wn ?_;clear S;(first|(fail_if_success revert ye);intro ye W S|(fail_if_success revert y);intro y W S|(fail_if_success revert P);intro P W S|intro y2 W S))
   go_ret;refine ap gR ⟨rfl,y2,P,_,A1,c1,_,rfl,.same,.empty P A c,rfl,rfl⟩ ?_;simp only[pathRw,Q4f];exact(show St _ _ _ _ _ ((b,L0f vb sb nb st pa np pc P al,.t 377)::(y2,L0f vb sb nb2 st A1 (np+1) c1 P al,.t 377)::[(P,[.slice A 0 c],.t 643)]) (⟨.slice A1 (np+1) c1,358,4,np+1,bs.flatMap Q0i++(L1m x)⟩::[⟨.slice A 0 c,370,1,0,[]⟩])from keep S)
  ·obtain⟨N,hN⟩:∃N,N=wi.length:=⟨_,rfl⟩
   have HW:=Hd (And.intro hN h);simp only[List.concat_eq_append,length_append,length_cons,length_nil,Nat.zero_add,List.map_append,List.map_cons,map_nil,<-hN]at S;have hNb:N+1<2 ^ 30:=by simpa[hN]using hn
   have hw:IntKind.i64.wrap (N:Int)=N:=by rw[IntKind.wrap_i64];omega
   have hN1:((N:Int)<(N:Int)+1)=True:=eq_true om;clear hN h hn;replace S:=Lib.row1 S ⟨.slice A (N+1) c,370,1,N+1,wi.map wptr++[wptr (b2,c2)]⟩;obtain⟨g,hA,hNc⟩:=Z0g S.out rfl;subst hA;go_enter func402,ntmps402;go_wp2_with (first|refine wk ?_|refine Ws ?_;clear S;intro W S|refine Q0q (t:=643) (e:=370) S (Q0b rf _) rf underlying643 kr 1 ?_;clear S;intro ys W S|refine wn ?_;clear S;(first|(fail_if_success revert ye);intro ye W S|(fail_if_success revert y);intro y W S|(fail_if_success revert P);intro P W S|intro y2 W S))
   refine Rg S [(b,L0f vb sb nb st pa np pc P al,.t 377),(P,[.slice (some (ad g 0)) (N+1) c],.t 643)] [⟨.slice (some (ad g 0)) (N+1) c,370,1,N+1,wi.map wptr++[wptr (b2,c2)]⟩] [25] [0,1,2,3,4,5,6,7,8,9,10,11,12,13,14,15,16,17,18,19,20,21,22,23,24] 1 fun W S=>?_;refine tk34 ?_;refine Cl 25 fun KK hKK=>?_;refine Q0j (v:=.slice (some (ad g 0)) N c) S rfl rfl rfl rfl ?_;clear S;intro W S;refine hKK.out _ _ (NoPanic.normal ?_);clear hKK KK;have hsz:=Hd (show N=(wi.concat (b2,c2)).length -1 by rw[HW.out.1];simp);obtain⟨ca,cb,cc,cd,ce,cf,cg,ch,ci,cj,ck,cl,hc2⟩:=list12 (HW.out.2 (b2,c2) b0f);subst hc2;replace S:=Hd (S.out.rshrink HW.out.1).lastfront4;have hh:∀x∈wi,x.2.length=12:=fun x hx=>HW.out.2 x (by simp[hx]);have HW:=Hd (And.intro HW.out.1 hh);clear hh hN1 hw hNb;replace S:=S.out;go_wp2_with (first|refine wk ?_|refine Ws ?_;clear S;intro W S|refine Q0q (t:=643) (e:=370) S (Q0b rf _) rf underlying643 kr 1 ?_;clear S;intro ys W S|refine wn ?_;clear S;(first|(fail_if_success revert ye);intro ye W S|(fail_if_success revert y);intro y W S|(fail_if_success revert P);intro P W S|intro y2 W S))
   replace S:=Lib.row1 S ⟨.slice pa np pc,358,4,np,bs.flatMap Q0i⟩;refine Rg S [(b2,L0f vb sb nb2 st pa np pc P al,.t 377),(ye,L1m x,.t 358)] [] [10] [0,1,2,3,4,5] 5 fun W S=>?_;refine Zw [] 4 6 ?_;intro KK hKK;refine Q1s S rfl underlying251 rfl ?_;clear S;intro ye1 W S;refine Yw [8,9] 1 7 ?_;intro KK hKK;refine Q1m S rfl rfl rfl underlying251 Q4v rfl b1e ?_;clear S;intro A1 c1 W S;refine Ht ?_;refine Cl 10 fun KK hKK=>?_;refine Q0j (v:=.slice A1 (np+1) c1) S rfl rfl rfl rfl ?_;clear S;intro W S;refine hKK.out _ _ (NoPanic.normal ?_);clear hKK KK;go_wp2_with (first|refine wk ?_|refine Ws ?_;clear S;intro W S|refine Q0q (t:=643) (e:=370) S (Q0b rf _) rf underlying643 kr 1 ?_;clear S;intro ys W S|refine wn ?_;clear S;(first|(fail_if_success revert ye);intro ye W S|(fail_if_success revert y);intro y W S|(fail_if_success revert P);intro P W S|intro y2 W S))
   go_ret;refine ap gR ⟨rfl,b2,P,_,A1,c1,_,rfl,.same,Pool.of P (some (ad g 0)) c wi HW.out.2 HW.out.1 hsz.out,rfl,rfl⟩ ?_;simp only[pathRw,Q4f];exact(show St _ _ _ _ _ ((b,L0f vb sb nb st pa np pc P al,.t 377)::(b2,L0f vb sb nb2 st A1 (np+1) c1 P al,.t 377)::((P,[.slice (some (ad g 0)) N c],.t 643)::wi.map (wblk 377))) (⟨.slice A1 (np+1) c1,358,4,np+1,bs.flatMap Q0i++(L1m x)⟩::[⟨.slice (some (ad g 0)) N c,370,1,N,wi.map wptr⟩])from keep S)
theorem in370:Inf prog 370 (pn) 1 8:=by unfold Inf;kernel_rfl
theorem tfin_s{P:Nat}{q0 q1 q2 q3 q4 q5 q6 q7 q8 q10 q11:Value}{n0 c0:Nat}{A0:OA}(hp:Pool 377 643 370 12 n (some (ad P 0)) PB PR)(hn:n<2 ^ 30)(hnp:np<2 ^ 30)(hbs:bs.length=np):
  Ac 403 #[pt b,pt b2] J ((b,L0f vb sb nb st A0 n0 c0 P al,.t 377)::(b2,[q0,q1,q2,q3,q4,q5,q6,q7,q8,.slice pa (np+1) pc,q10,q11],.t 377)::PB) (pathRw pa (np+1) pc (bs++[x])::PR) fun u K L' R'=>K=J/\∃PB' PR',Pool 377 643 370 12 (n+1) (some (ad P 0)) PB' PR'/\L'=(b,L0f vb sb nb st pa np pc P al,.t 377)::PB'/\R'=pathRw pa np pc bs::PR':=by
 intro M I w W S;rcases hp with _|⟨_,A,c,ws,h⟩;obtain⟨N,hN⟩:∃N,N=ws.length:=⟨_,rfl⟩
 rw[<-hN]at S hn;have HN:=Hd (And.intro hn hnp);have HW:=Hd (And.intro hN h);obtain⟨g,hA,hNc⟩:=Z0g S.out rfl;subst hA;replace S:=Hd (S.out.pathcut hbs);have hw:IntKind.i64.wrap (np:Int)=np:=by rw[IntKind.wrap_i64];omega
 have hN1:((np:Int)<(np:Int)+1)=True:=eq_true om;clear hN h hbs hn hnp;replace S:=Lib.row1 S ⟨.slice A N c,370,1,N,ws.map wptr⟩;go_enter func403,ntmps403;go_wp2_with fail
 refine Rg S [(b,L0f vb sb nb st A0 n0 c0 P al,.t 377),(b2,[q0,q1,q2,q3,q4,q5,q6,q7,q8,.slice (some (ad g 0)) (np+1) pc,q10,q11],.t 377)] [] [14] [0,1,2,3,4,5,6,7,8,9,10,11,12,13] 1 fun W S=>?_;refine tk1 ?_;refine Cl 14 fun KK hKK=>?_;refine Q0j (v:=.slice (some (ad g 0)) np pc) S rfl rfl rfl rfl ?_;clear S;intro W S;refine hKK.out _ _ (NoPanic.normal ?_);clear hKK KK;go_wp2_with fail
 refine Rg S [(b,[.iface 339 (pt vb),pt sb,pt nb,pn,pn,pn,pn,.bool false,pt st,.slice (some (ad g 0)) np pc,pt P,.iface 340 (pt al)],.t 377),(P,[.slice A N c],.t 643)] [] [14] [0,1,2,3,4,5,6,7,8,9,10] 4 fun W S=>?_;refine Zw [] 3 11 ?_;intro KK hKK;refine Q1s S rfl underlying643 rfl ?_;clear S;intro y1 W S;refine Yw [13] 1 12 ?_;intro KK hKK;refine Q1m S rfl rfl rfl underlying643 in370 rfl (by have:=HN.out.1;omega) ?_;clear S;intro A1 c1 W S;refine Ht ?_;refine Cl 14 fun KK hKK=>?_;refine Q0j (v:=.slice A1 (N+1) c1) S rfl rfl rfl rfl ?_;clear S;intro W S;refine hKK.out _ _ (NoPanic.normal ?_);clear hKK KK;go_wp2_with fail
 refine bT ?_;exact ap gR ⟨rfl,_,_,Pool.of P A1 c1 (ws++[(b2,[q0,q1,q2,q3,q4,q5,q6,q7,q8,.slice (some (ad g 0)) (np+1) pc,q10,q11])]) (fun x hx=>(List.mem_append.1 hx).elim (HW.out.2 x) fun e=>by rw[List.mem_singleton.1 e];rfl) (by simp[HW.out.1]) (by rw[HW.out.1]),rfl,rfl⟩ (Z4u S)
end
section
structure Gath(s:FS)(p:List PE)(A:List PE->Prop)(c:Nat)(s':FS):Prop where
 ok:s'.ok
 has:∀q,q≠[]->(s'.has q=true<->s.has q=true\/∃r,A r/\q=p++r)
 cnt:s'.cnt<=s.cnt+c
variable{p:List PE}{s':FS}
theorem Gath.refl(h:s.ok):Gath s p (fun _=>False) 0 s:=⟨h,fun q _=>by simp,Nat.le_refl _⟩
theorem Gath.ins{r:List PE}{D:Nat}(h:s.ok)(hD:p.length+r.length<=D):Gath s p (fun x=>x=r) D (s.ins (p++r)):=by
 refine⟨X1x _ h,fun q hq=>?_,?_⟩
 ·by_cases h0:p++r=[]
  ·have e:s.ins (p++r)=s:=by rw[h0];cases s;rfl
   rw[e];constructor
   ·exact .inl
   ·rintro(h|⟨x,rfl,e2⟩)
    ·exact h
    ·exact absurd (e2.trans h0) hq
  ·rw[Z9i _ _ h h0,Bool.or_eq_true,decide_eq_true_eq];constructor
   ·rintro(e|e)
    ·exact .inr ⟨r,rfl,e⟩
    ·exact .inl e
   ·rintro(e|⟨x,rfl,e⟩)
    ·exact .inr e
    ·exact .inl e
 ·have:=X6j (p++r) s;rw[length_append]at this;omega
variable{d:Nat}{A B:List PE->Prop}
theorem Gath.trans{s1 s2:FS}(h:Gath s p A c s1)(k:Gath s1 p B d s2):Gath s p (fun r=>A r\/B r) (c+d) s2:=by
 refine⟨k.ok,fun q hq=>?_,by have:=h.cnt;have:=k.cnt;omega⟩;rw[k.has q hq,h.has q hq];constructor
 ·rintro((e|⟨r,ha,e⟩)|⟨r,hb,e⟩)
  ·exact .inl e
  ·exact .inr ⟨r,.inl ha,e⟩
  ·exact .inr ⟨r,.inr hb,e⟩
 ·rintro(e|⟨r,ha|hb,e⟩)
  ·exact .inl (.inl e)
  ·exact .inl (.inr ⟨r,ha,e⟩)
  ·exact .inr ⟨r,hb,e⟩
theorem Gath.conv(h:Gath s p A c s')(e:∀r,A r<->B r)(hc:c<=d):Gath s p B d s':=
 ⟨h.ok,fun q hq=>(h.has q hq).trans (or_congr_right (exists_congr fun r=>and_congr_left' (e r))),by have:=h.cnt;omega⟩
theorem Gath.under{k:PE}(h:Gath s (p++[k]) A c s'):Gath s p (fun r=>∃x,r=k::x/\A x) c s':=by
 refine⟨h.ok,fun q hq=>(h.has q hq).trans (or_congr_right ⟨?_,?_⟩),h.cnt⟩
 ·rintro⟨r,ha,rfl⟩;exact⟨k::r,⟨r,rfl,ha⟩,by simp⟩
 ·rintro⟨_,⟨x,rfl,ha⟩,rfl⟩;exact⟨x,ha,by simp⟩
def Gat(t:Tr)(r:List PE):Prop:=r∈Q0f t\/(r=[]/\t.kind≠0/\t.kind≠6)
def GatM(D:BA->Bool)(m:KT)(r:List PE):Prop:=∃k u x,D k=true/\findK m k=some u/\r=k::x/\(x=[]\/x∈Q0f u)
def wtM(D:Nat):(BA->Bool)->KT->Nat
 |_,[]=>0
 |f,(k,t)::m=>(if f k=true then 2*t.size*D else 0)+wtM D f m
theorem X7g(D:Nat)(f:BA->Bool):∀m,wtM D f m<=2*Q0p m*D
 |[]=>Nat.zero_le _
 |(k,t)::m=>by
  have:=X7g D f m;unfold wtM Q0p;rw[Nat.mul_add,Nat.add_mul];split<;>omega
theorem X0l{D:Nat}{f g:BA->Bool}(h:∀k,g k=true->f k=true):∀m,wtM D g m<=wtM D f m
 |[]=>Nat.le_refl _
 |(k,t)::m=>by
  have:=X0l (D:=D) h m;unfold wtM;by_cases hg:g k=true
  ·rw[if_pos hg,if_pos (h k hg)];omega
  ·rw[if_neg hg];omega
theorem Z8n{D:Nat}{f:BA->Bool}{s:BA}{u:Tr}(hs:f s=true):∀{m:KT},findK m s=some u->wtM D (fun z=>f z&&!decide (z=s)) m+2*u.size*D<=wtM D f m
 |[],h=>by simp[findK]at h
 |(k,t)::m,h=>by
  unfold wtM;rw[Q0k]at h;by_cases hk:k=s
  ·subst hk;rw[if_pos rfl]at h;cases h;have:=X0l (D:=D) (f:=f) (g:=fun z=>f z&&!decide (z=k)) (fun z h=>by simp only[Bool.and_eq_true]at h;exact h.1) m;rw[if_pos hs,if_neg b0f];simp only at this⊢;omega
  ·rw[if_neg hk]at h;have:=Z8n (D:=D) hs h;have e:(f k&&!decide (k=s))=f k:=by simp[hk]
   simp only[e];omega
end
section
theorem row_pe{pb n k x:Nat}(hx:bs[k]?=some x)(W:World)(h:Vw J [] [⟨.slice (some (ad pb 0)) n pc,358,4,n,bs.flatMap Q0i⟩] W)(i:Nat)(u:Value)(hu:(Q0i x)[i]?=some u):W.cell? (ad pb (k*4+i))=some u:=by
 obtain⟨b,o,e,hc⟩:=(Q2f.own (h.2.1 _ (List.mem_cons_self ..))).get (Q3x Q3l hx hu);cases e;simpa using hc
theorem Q3t{b:Nat}{s:FS}{L:List Blk}{R:List Rw}{p:List PE}{pa:OA}(hF:FO J b s L R)(hs:s.ok)(hp:All2 (Nm J) bs p)(hc:s.cnt+p.length<2 ^ 30):
  Ac 148 #[pt b,.slice pa p.length pc] J L (⟨.slice pa p.length pc,358,4,p.length,bs.flatMap Q0i⟩::R) fun u K L' R'=>u=.tuple #[]/\K=J/\∃R1,R'=⟨.slice pa p.length pc,358,4,p.length,bs.flatMap Q0i⟩::R1/\FO J b (s.ins p) L' R1:=by
 intro M I w W S;have HB:=Hd (nd4 hF hs hp hc);clear hF hs hp hc;by_cases hp0:p=[]
 ·subst hp0;go_enter func148,ntmps148;go_wp2_with fail
  refine bT ?_;exact ap gR ⟨rfl,rfl,_,rfl,by cases s;unfold FS.ins;exact HB.out.1⟩ S.out
 ·have hp1:0<p.length:=List.length_pos_iff.2 hp0;obtain⟨pb,rfl⟩:∃pb,pa=some (ad pb 0):=by
   obtain⟨g,cap,hv,_,hlt⟩:=(S.out.row .head).form hp1;injection hv with h1;exact⟨g,h1⟩
  have hpl:p.length<=pc/\pc<=maxLen:=by
   rcases(S.out.row .head).2 with⟨hh,_⟩|⟨g,cap,cur,e,_,_,h1,h2,_⟩
   ·cases hh
   ·injection e with e1 e2 e3;subst e3;exact⟨h1,h2⟩
  go_enter func148,ntmps148;have hz0:((p.length:Int)==0)=false:=Z8v om;go_wp2_with fail
  go_loopg [0,1] p.length (fun g s0 s1 wr=>∃(k bk:Nat) (sk:FS) (Lk Lc:List Blk) (Rk Rc:List Rw) (rb:FS->FS),s0=pt bk/\s1=.slice (some (ad pb (k*4))) (p.length -k) (pc -k)/\k<p.length/\g=p.length -k/\
   Hid (St M I J w wr (Lk++Lc) (⟨.slice (some (ad pb 0)) p.length pc,358,4,p.length,bs.flatMap Q0i⟩::(Rk++Rc)))/\Hid (FO J bk sk Lk Rk/\sk.ok/\sk.cnt+p.length<2 ^ 30/\(∀s' L' R',FO J bk s' L' R'->FO J b (rb s') (L'++Lc) (R'++Rc))/\rb (sk.ins (p.drop k))=s.ins p))
  case atStart=>exact⟨0,b,s,L,[],R,[],id,rfl,by simp,hp1,rfl,by simpa using S,Hd ⟨HB.out.1,HB.out.2.1,HB.out.2.2.2,fun s' L' R' h=>by simpa using h,rfl⟩⟩
  case round=>
   clear S;obtain⟨k,bk,sk,Lk,Lc,Rk,Rc,rb,rfl,rfl,hk,hg,S,HF⟩:=hrel;cases sk with|mk m c=>
   obtain⟨e,hek⟩:∃e,p[k]?=some e:=gx hk;obtain⟨x,hbk⟩:∃x,bs[k]?=some x:=gx (by have:=HB.out.2.2.1.length;omega);have HE:=Hd (And.intro hek (HB.out.2.2.1.get hbk hek));clear hek;have hgt:0<p.length -k:=by omega
   by_cases h1:p.length -k=1
   ·go_wp2_with fail
    refine Rg S [] [⟨.slice (some (ad pb 0)) p.length pc,358,4,p.length,bs.flatMap Q0i⟩] [] [0,1,2,3,4,5] 1 fun W S=>?_;refine tk7 ?_;refine Wr [] 0 6 fun K hK=>?_;go_simp;refine Q0a S (insertF_s (x:=x) (e:=e) HF.out.1 HE.out.2 HF.out.2.1.m (by have:=HF.out.2.2.1;simp only[FS.cnt]at this;omega)) ?_;rintro r K2 L' R' W' hle ⟨rfl,rfl,hFO⟩ S2;clear S;have S:=S2;clear S2;refine Ey ?_;go_wp2_with fail
    refine bT ?_;have hd:p.drop k=[e]:=by rw[Q1h HE.out.1,List.drop_of_length_le om]
    refine ap gR ⟨rfl,rfl,R'++Rc,rfl,?_⟩ (S.out.rperm List.perm_middle.symm);rw[<-HF.out.2.2.2.2,hd];exact HF.out.2.2.2.1 _ _ _ hFO
   ·have h1b:(((p.length -k:Nat):Int)==1)=false:=by simp;omega
    go_wp2_with fail
    refine Rg S [] [⟨.slice (some (ad pb 0)) p.length pc,358,4,p.length,bs.flatMap Q0i⟩] [] [0,1,2,3,4,5] 2 fun W S=>?_;refine tk7 ?_;refine Wr [7] 0 6 fun K hK=>?_;go_simp;refine Q0a S (descendF_s (x:=x) (e:=e) HF.out.1 HE.out.2 HF.out.2.1.c (by have h1:=HF.out.2.2.1;have:=Q7c c;simp only[FS.cnt]at h1;omega)) ?_;rintro r K2 L' R' W' hle ⟨rfl,cb,L1,R1,Ld,Rd,rfl,hFO,rfl,rfl,hw⟩ S2;clear S;have S:=S2;clear S2;refine Hk ?_;refine tk7 ?_;refine En ?_;go_wp2_with fail
    have hd:p.drop k=e::p.drop (k+1):=Q1h HE.out.1;obtain⟨e2,q,hq⟩:∃e2 q,p.drop (k+1)=e2::q:=by
     cases hz:p.drop (k+1)with
     |nil=>have:=congrArg List.length hz;rw[List.length_drop]at this;simp at this;omega
     |cons a q=>exact⟨a,q,rfl⟩
    have hok:((kid c e).getD .nil).ok:=by
     cases hz:kid c e with
     |none=>exact FS.ok_nil
     |some s1=>exact HF.out.2.1.kid (Q5t hz)
    have hcn:((kid c e).getD .nil).cnt<=(FS.mk m c).cnt:=by
     cases hz:kid c e with
     |none=>exact Nat.zero_le _
     |some s1=>have:=Q7i (Q5t hz);simp only[Option.getD_some,FS.cnt]at this⊢;omega
    go_roundg (p.length -(k+1))
    case measure=>omega
    case rel=>
     refine⟨k+1,cb,(kid c e).getD .nil,L1,Ld++Lc,R1,Rd++Rc,fun s'=>rb (.mk m (setC c e fun _=>s')),rfl,?_,by omega,rfl,?_,Hd ⟨hFO,hok,by have:=HF.out.2.2.1;omega,fun s' L' R' h=>?_,?_⟩⟩
     ·rw[show k*4+4=(k+1)*4 by omega,show p.length -k -1=p.length -(k+1) by omega,show pc -k -1=pc -(k+1) by omega]
     ·refine Hd (S.out.perm (by rw[append_assoc]) ?_);rw[append_assoc];refine Q2x fun p=>?_;simp only[List.countP_cons,List.countP_append];ac_rfl
     ·rw[<-append_assoc,<-append_assoc];exact HF.out.2.2.2.1 _ _ _ (hw _ _ _ h)
     ·rw[<-HF.out.2.2.2.2,hd,hq];show rb (FS.mk m (setC c e fun _=>_))=rb (FS.mk m (setC c e fun s=>s.ins (e2::q)));rw[Z8l c e (fun s=>s.ins (e2::q)) HF.out.2.1.c]
end
section
theorem nm_isA:(Q1p.toList==[97,116,111,109,105,99])=true:=by kernel_rfl
theorem Z9x:(Q6r.toList==[97,116,111,109,105,99])=false:=by kernel_rfl
def tc(vb sb nb st al:Nat)(path:Value)(sp:OA):List Value:=[.iface 339 (pt vb),pt sb,pt nb,pn,pn,pn,pn,.bool false,pt st,path,.pointer sp,.iface 340 (pt al)]
def Z9w(b vb sb nb st al N:Nat)(sp:OA)(s:FS)(p:List PE)(bs:List Nat)(A:List PE->Prop)(c:Nat)(VB:List Blk)(u:Value)(K:Gh)(L':List Blk)(R':List Rw):Prop:=
 u=sn/\∃s' n' sp' PB' PR' SL SR pa pc,n'<=N/\Q3b sp sp'/\Pool 377 643 370 12 n' sp' PB' PR'/\FO K st s' SL SR/\Gath s p A c s'/\L'=(b,tc vb sb nb st al (.slice pa p.length pc) sp',.t 377)::(PB'++(SL++VB))/\R'=pathRw pa p.length pc bs::(PR'++SR)
variable{p:List PE}{SR:List Rw}{SL VB:List Blk}{N nb2 mp:Nat}{sp:OA}
theorem tscalar_s{sc:Nat}(hF:FO J st s SL SR)(hs:s.ok)(hp:All2 (Nm J) bs p)(hc:s.cnt+p.length<2 ^ 30)(hD:p.length<=D)(hpl:Pool 377 643 370 12 n sp PB PR)(hN:n<=N):
  Ac 395 #[pt b,pt sc] J ((b,tc vb sb nb st al (.slice pa p.length pc) sp,.t 377)::(PB++(SL++VB))) (pathRw pa p.length pc bs::(PR++SR)) (Z9w b vb sb nb st al N sp s p bs (fun r=>r=[]) D VB):=by
 intro M I w W S;have HA:=Hd (nd6 hF hs hp hc hD (And.intro hpl hN));clear hF hs hp hc hD hpl hN;simp only[tc]at S;go_enter func395,ntmps395;go_wp2_with fail
 refine Rg S [(b,L0v vb sb nb st pa p.length pc sp al,.t 377)] [] [] [0,1,2,3,4,5,6,7] 1 fun W S=>?_;refine Zw [] 0 8 ?_;intro KK hKK;go_simp;refine Q0a S (Q3t (p:=p) HA.out.1 HA.out.2.1 HA.out.2.2.1 HA.out.2.2.2.1) ?_;rintro r K L' R' W' hle ⟨rfl,hKJ,R1,rfl,hF2⟩ S2;subst hKJ;clear S;have S:=S2;clear S2;replace S:=sa S;refine Ey ?_;go_wp2_with fail
 go_ret;exact ap gR ⟨rfl,_,n,sp,PB,PR,L',R1,pa,pc,HA.out.2.2.2.2.2.2,.same,HA.out.2.2.2.2.2.1,hF2,by have:=Gath.ins (r:=[]) HA.out.2.1 (show p.length+0<=D from HA.out.2.2.2.2.1);rwa [append_nil]at this,rfl,rfl⟩ (show St _ _ _ _ _ ((b,L0v vb sb nb st pa p.length pc sp al,.t 377)::(PB++(L'++VB))) (pathRw pa p.length pc bs::(PR++R1))from keep S)
theorem tlist_s{lp o lb c m:Nat}(hF:FO J st s SL SR)(hs:s.ok)(hp:All2 (Nm J) bs p)(hc:s.cnt+p.length<2 ^ 30)(hD:p.length<=D)(hpl:Pool 377 643 370 12 n sp PB PR)(hN:n<=N)(hv:Q2n J VB vb (.iface 282 (.slice (some (ad lb o)) m c)))
  (hlp:J lp=some (.cells (L1n nb2 Q1p).toArray 332 (0,0))):
  Ac 393 #[pt b,pt lp] J ((b,tc vb sb nb st al (.slice pa p.length pc) sp,.t 377)::(PB++(SL++VB))) (pathRw pa p.length pc bs::(PR++SR)) (Z9w b vb sb nb st al N sp s p bs (fun r=>r=[]) D VB):=by
 intro M I w W S;have HA:=Hd (nd6 hF hs hp hc hD (And.intro hpl hN));clear hF hs hp hc hD hpl hN;have HV:=Hd hv;have hrel:J.cell (ad lp 6) (.string Q1p):=⟨_,_,_,hlp,rfl,rfl⟩
 have hnm:=nm_isA;clear hv hlp;simp only[tc]at S;go_enter_defers func393,ntmps393;go_wp2_with fail
 refine Rg S [(b,L0v vb sb nb st pa p.length pc sp al,.t 377)] [] [] [0,1,2,3,4,5,6,7] 6 fun W S=>?_;refine Zw [9,10,11,12,13] 0 8 ?_;intro KK hKK;go_simp;refine(Q8m _ S.out.inw (HV.out.at gR S)).mono ?_;rintro e W ⟨rfl,st⟩;replace S:=Hd (S.out.call st);clear st;refine Et ?_;go_wp2_with (refine wk ?_)
 refine Rg S [(b,L0v vb sb nb st pa p.length pc sp al,.t 377)] [] [] [0,1,2,3,4,5,6,7] 1 fun W S=>?_;refine Zw [] 0 8 ?_;intro KK hKK;go_simp;refine Q0a S (Q3t (p:=p) HA.out.1 HA.out.2.1 HA.out.2.2.1 HA.out.2.2.2.1) ?_;rintro r K L' R' W' hle ⟨rfl,hKJ,R1,rfl,hF2⟩ S2;subst hKJ;clear S;have S:=S2;clear S2;replace S:=sa S;refine Ey ?_;go_wp2_with fail
 exact Q0z _ _ ⟨_,results_tmp rfl _ _ _,ap gR ⟨rfl,_,n,sp,PB,PR,L',R1,pa,pc,HA.out.2.2.2.2.2.2,.same,HA.out.2.2.2.2.2.1,hF2,by have:=Gath.ins (r:=[]) HA.out.2.1 (show p.length+0<=D from HA.out.2.2.2.2.1);rwa [append_nil]at this,rfl,rfl⟩ (show St _ _ _ _ _ ((b,L0v vb sb nb st pa p.length pc sp al,.t 377)::(PB++(L'++VB))) (pathRw pa p.length pc bs::(PR++R1))from keep S)⟩
theorem tnull_s{D:Nat}{rel:Value}(hF:FO J st s SL SR)(hs:s.ok)(hpl:Pool 377 643 370 12 n sp PB PR)(hN:n<=N)(hv:Q2n J VB vb .nilIface)
  (hmp:J mp=some (.cells (L1a nb2 Q6r).toArray 337 (0,0))):
  Ac 394 #[pt b,pt mp] J ((b,tc vb sb nb st al (.slice pa p.length pc) sp,.t 377)::(PB++(SL++VB))) (pathRw pa p.length pc bs::(PR++SR)) (Z9w b vb sb nb st al N sp s p bs (fun _=>False) 0 VB):=by
 intro M I w W S;have HA:=Hd (nd4 hF hs hpl hN);have HV:=Hd hv;have hrel:J.cell (ad mp 8) (.string Q6r):=⟨_,_,_,hmp,rfl,rfl⟩
 have hnm:=Z9x;clear hv hmp hF hs hpl hN;simp only[tc]at S;go_enter_defers func394,ntmps394;go_wp2_with fail
 refine Rg S [(b,L0v vb sb nb st pa p.length pc sp al,.t 377)] [] [] [0,1,2,3,4,5,6,7] 6 fun W S=>?_;refine Zw [9,10,11,12,13] 0 8 ?_;intro KK hKK;go_simp;refine(X0q _ S.out.inw (HV.out.at gR S)).mono ?_;rintro e W ⟨rfl,st⟩;replace S:=Hd (S.out.call st);clear st;refine Et ?_;go_wp2_with (refine wk ?_)
 exact⟨_,results_tmp rfl _ _ _,ap gR ⟨rfl,s,n,sp,PB,PR,SL,SR,pa,pc,HA.out.2.2.2,.same,HA.out.2.2.1,HA.out.1,Gath.refl HA.out.2.1,rfl,rfl⟩ (show St _ _ _ _ _ ((b,L0v vb sb nb st pa p.length pc sp al,.t 377)::(PB++(SL++VB))) (pathRw pa p.length pc bs::(PR++SR))from keep S)⟩
theorem tmap_s{N D n:Nat}{s:FS}{p:List PE}{r np:Nat}{Post:Value->Gh->List Blk->List Rw->Prop}(hv:Q2n J VB vb (.iface 283 (.map (some r))))
  (hmp:J mp=some (.cells (L1a nb2 Q6r).toArray 337 (0,0)))
  (h:Ac 399 #[pt b,pt mp,.iface 633 (.map (some r))] J ((b,tc vb sb nb st al (.slice pa np pc) sp,.t 377)::(PB++(SL++VB))) (pathRw pa np pc bs::(PR++SR)) Post):
  Ac 394 #[pt b,pt mp] J ((b,tc vb sb nb st al (.slice pa np pc) sp,.t 377)::(PB++(SL++VB))) (pathRw pa np pc bs::(PR++SR)) Post:=by
 intro M I w W S;have HV:=Hd hv;have HC:=Hd h;have hrel:J.cell (ad mp 8) (.string Q6r):=⟨_,_,_,hmp,rfl,rfl⟩
 have hnm:=Z9x;clear hv hmp h;simp only[tc]at S HC;go_enter_defers func394,ntmps394;go_wp2_with fail
 refine Rg S [(b,L0v vb sb nb st pa np pc sp al,.t 377)] [] [] [0,1,2,3,4,5,6,7] 6 fun W S=>?_;refine Zw [9,10,11,12,13] 0 8 ?_;intro KK hKK;go_simp;refine(Q9y _ S.out.inw (HV.out.at gR S)).mono ?_;rintro e W ⟨rfl,st⟩;replace S:=Hd (S.out.call st);clear st;refine Et ?_;go_wp2_with (refine wk ?_)
 refine Q0a S HC.out ?_;rintro r2 K L' R2 W' hle hpost S2;clear S;have S:=S2;clear S2;replace S:=sa S;go_wp2_with fail
 refine Q0z _ _ ⟨_,results_tmp rfl _ _ _,?_⟩;go_simp;exact ap hle hpost S.out
end
section
theorem asMap_x(r:Nat)(w:World)(hi:J.In w):Calls prog 377 #[.agg #[.iface 283 (.map (some r))]] w (Got Nix J w (.iface 633 (.map (some r)))):=by
 refine Q0c (M:=Nix) hi ?_;intro W S;go_enter func377,ntmps377;go_wp2_with (first|go_at_call 378;refine(Q0g (Q9g _ _ _) S.out.inw).mono ?_;rintro e W ⟨rfl,st⟩;replace S:=Hd (S.out.call st);clear st|refine wk ?_|refine wn ?_;clear S;intro y W S)
 go_ret;exact⟨rfl,S.out.step⟩
theorem iterate0_s{F:Nat}{caps:Array Value}{r:Nat}{L:List Blk}{R:List Rw}{Post:Value->Gh->List Blk->List Rw->Prop}(h:∀al,Ac 513 #[.map (some r),.iface 340 (pt al),.func (.func F) #[] caps] J L R Post):
  Ac 512 #[.map (some r),.func (.func F) #[] caps] J L R Post:=by
 intro M I w W S;go_enter func512,ntmps512;go_wp2_with (first|refine wk ?_|refine wn ?_;clear S;intro y W S)
 refine Q0a S (h y) ?_;rintro r K L' R' W' hle hp S2;clear S;have S:=S2;clear S2;go_wp2_with fail
 refine bT ?_;go_simp;exact ap hle hp (keep S)
variable{u:Tr}
theorem X3s{a:Nat}(h:c+2*u.size*D<a):c+D<a/\c+D+D<=c+2*u.size*D+D:=by
 have h1:1*D<=u.size*D:=Nat.mul_le_mul_right D (Q1l u);rw[Nat.mul_assoc]at*;omega
variable{p:List PE}
theorem X7b{s1:FS}{k:PE}{X:Prop}(h:Gath s (p++[k]) (Gat u) (2*u.size*D -D) s1)(hb:p.length+1+u.size<=D/\s.cnt+2*u.size*D<c/\X):Gath s p (fun r=>∃x,r=k::x/\(x=[]\/x∈Q0f u)) (2*u.size*D) (s1.ins (p++[k])):=by
 have h2:=X3s hb.2.1;have h1:=hb.1;refine(h.under.trans (Gath.ins (p:=p) (r:=[k]) (D:=D) h.ok (by simp only[length_cons,length_nil];omega))).conv (fun r=>⟨?_,?_⟩) om
 ·rintro(⟨x,rfl,h|⟨rfl,_⟩⟩|rfl)
  ·exact⟨x,rfl,.inr h⟩
  ·exact⟨[],rfl,.inl rfl⟩
  ·exact⟨[],rfl,.inl rfl⟩
 ·rintro⟨x,rfl,rfl|h⟩
  ·exact .inr rfl
  ·exact .inl ⟨x,rfl,.inl h⟩
def TAll(z:Nat):Prop:=∀(J:Gh) (a:Value) (t:Tr),Q0r J a t->t.size<=z->∀(N D b vb sb nb st al n:Nat) (sp:OA) (PB SL VB:List Blk) (PR SR:List Rw) (s:FS) (p:List PE) (bs:List Nat) (pa:OA) (pc:Nat),t.size<=N->n<=N/\N<2 ^ 30->Q2c J sb->Nm J nb nmDe->Q2n J VB vb a->Pool 377 643 370 12 n sp PB PR->FO J st s SL SR->s.ok->All2 (Nm J) bs p->p.length+t.size<=D->s.cnt+2*t.size*D<2 ^ 30->
 Ac 185 #[pt b] J ((b,tc vb sb nb st al (.slice pa p.length pc) sp,.t 377)::(PB++(SL++VB))) (pathRw pa p.length pc bs::(PR++SR)) (Z9w b vb sb nb st al N sp s p bs (Gat t) (2*t.size*D -D) VB)
def tL(y1 y2 y3 b mp vb sb nb st al:Nat)(path:Value)(sp:OA):List Blk:=[(y1,[pt b],.t 370),(y2,[pt mp],.t 109),(y3,[sn],.t 373),(b,[.iface 339 (pt vb),pt sb,pt nb,pn,pn,pn,pn,.bool false,pt st,path,.pointer sp,.iface 340 (pt al)],.t 377)]
theorem tclo_s{z N n y1 y2 y3 b mp vb sb nb nb2 st al vb2 pc:Nat}{sp pa:OA}{PB SL:List Blk}{PR SR:List Rw}{bs:List Nat}{v:Value}{k:BA}(IH:TAll z)(hu:Q0r J v u)(hz:u.size<=z)(hN:u.size+1<=N)(hnN:n<=N/\N<2 ^ 30)(hs:Q2c J sb)(hnm:Nm J nb2 nmDe)(hmp:J mp=some (.cells (L1a nb2 Q6r).toArray 337 (0,0)))
  (hp:Pool 377 643 370 12 n sp PB PR)(hF:FO J st s SL SR)(hok:s.ok)(hpp:All2 (Nm J) bs p)(hD:p.length+1+u.size<=D)(hc:s.cnt+2*u.size*D<2 ^ 30)(hk:k.size<=maxLen):
  Ac 404 ((L2t k vb2).toArray++(L1o y2 y1 y3).toArray) J ((vb2,[v],.t 430)::(tL y1 y2 y3 b mp vb sb nb st al (.slice pa p.length pc) sp++(PB++SL))) (pathRw pa p.length pc bs::(PR++SR))
   fun x K L2 R2=>x=.bool true/\∃s' n' sp' PB' PR' SL' SR' pa' pc',n'<=N/\Q3b sp sp'/\Pool 377 643 370 12 n' sp' PB' PR'/\FO K st s' SL' SR'/\Gath s p (fun r=>∃x,r=k::x/\(x=[]\/x∈Q0f u)) (2*u.size*D) s'/\L2=(vb2,[v],.t 430)::(tL y1 y2 y3 b mp vb sb nb st al (.slice pa' p.length pc') sp'++(PB'++SL'))/\R2=pathRw pa' p.length pc' bs::(PR'++SR'):=by
 intro M I w W S;have hFF:∀(i:Nat) u,((L1b nb2):List Value)[i]?=some u->J.cell (ad mp (2+i)) u:=fun i u hu=>by
  refine⟨_,_,_,hmp,rfl,?_⟩;match i,hu with
  |0,h|1,h|2,h|3,h|4,h|5,h=>simpa using h
  |i+6,h=>simp at h
 have hc0:J.cell (ad mp 0) (sn):=⟨_,_,_,hmp,rfl,rfl⟩
 have HC0:=Hd (And.intro hc0 hFF);have HU:=Hd (nd4 hu hz hN hnN);have HS:=Hd (nd3 IH hs hnm);have HF:=Hd (nd4 hp hF hok hpp);have HB:=Hd (nd3 hD hc hk);clear IH hu hz hN hnN hs hnm hmp hp hF hok hpp hD hc hk hc0 hFF;simp only[tL,tc,cons_append,nil_append]at S;go_enter func404,ntmps404;go_wp2_with (first|refine wB ?_;clear S;intro kb W S0;obtain⟨K1,hle1,hk1,S⟩:=S0.out.freeze;clear S0;replace S:=Hd S;have HC:=Hd (And.intro (HC0.out.1.mono hle1) fun i u h=>(HC0.out.2 i u h).mono hle1);have hkc:K1.cell (ad kb 0) (.string k):=⟨_,_,_,hk1,rfl,rfl⟩|go_at_call 235;refine got S (Q3k _ mp k HC.out.1) ?_;clear S;intro W S|refine wk ?_|refine X9l (sub:=(L1b nb2)) rf rfl rfl rfl HC.out.2 S.out.inw ?_|refine Ws ?_;clear S;intro W S|refine wA ?_;clear S;intro _ W S|refine wB ?_;clear S;intro kb W S0;obtain⟨K1,hle1,hk1,S⟩:=S0.out.freeze;clear S0;replace S:=Hd S;have hkc:K1.cell (ad kb 0) (.string k):=⟨_,_,_,hk1,rfl,rfl⟩)
 refine Q0a S (tprep_s (b:=b) (vb:=vb) (sb:=sb) (nb:=nb) (st:=st) (al:=al) (nb2:=nb2) (x:=kb) (np:=p.length) (pa:=pa) (pc:=pc) (bs:=bs) HF.out.1 (by have:=HU.out.2.2.2;omega) b2a) ?_;rintro r K L1 R1 W' hle ⟨hKJ,b2,P,PB1,A1,c1,PR1,rfl,hq1,hq2,rfl,rfl⟩ S2;have hJK:=hKJ.symm;subst hJK;clear S;have S:=S2;clear S2;replace S:=sa S;have hnk:Nm K1 kb k:=⟨hkc,HB.out.2.2⟩
 have hp2:All2 (Nm K1) (bs++[kb]) (p++[k]):=Q1e (HF.out.2.2.2.imp fun _ _ h=>h.mono hle1) hnk;have HQ:=Hd (nd3 hq1 hnk hp2);have hcall:=HS.out.1 K1 v u (HU.out.1.mono hle1) HU.out.2.1 (N -1) D b2 vb2 sb nb2 st al (n -1) (some (ad P 0)) PB1 SL [(vb2,[v],.t 430)] PR1 SR s (p++[k]) (bs++[kb]) A1 c1 (by have:=HU.out.2.2.1;omega) (by have:=HU.out.2.2.2;omega) (HS.out.2.1.mono hle1) (HS.out.2.2.mono hle1) (.inr ⟨430,by simp⟩) hq2 (HF.out.2.1.mono hle1) HF.out.2.2.1 hp2 b2h HB.out.2.1;simp only[tc,length_append,length_cons,length_nil,Nat.zero_add]at hcall;clear hq1 hq2 hnk hp2;go_wp2_with (first|refine wk ?_|refine Ws ?_;clear S;intro W S)
 refine Rg S [(y3,[sn],.t 373)] [] [4] [0,1] 3 fun W S=>?_;refine Zw [] 2 2 ?_;intro KK hKK;go_simp;refine Q0a S hcall ?_;clear hcall;rintro r K2 L' R2 W' hle2 ⟨rfl,s1,n2,sp2,PB2,PR2,SL2,SR2,pa2,pc2,hn2,hsp2,hp2,hF2,hG2,rfl,rfl⟩ S2;obtain rfl:sp2=some (ad P 0):=by cases hsp2;rfl
 have HP:=Hd (nd5 hn2 hp2 hF2 hG2 hle2);clear S hn2 hsp2 hp2 hF2 hG2;have S:=S2;clear S2;replace S:=sa S;simp only[tc,length_append,length_cons,length_nil,Nat.zero_add]at S;refine Yw [] 1 3 ?_;intro KK hKK;refine Q4b rfl rfl rfl underlying373 Z0q ?_;refine Hy ?_;refine Cl 4 fun KK hKK=>?_;refine Q0j (v:=sn) S rfl rfl rfl rfl ?_;clear S;intro W S;refine hKK.out _ _ (NoPanic.normal ?_);clear hKK KK;have HK:=Hd (HU.out.1.ak);have hle2:=HP.out.2.2.2.2;have HC2:=Hd (And.intro (HC.out.1.mono hle2) fun i u h=>(HC.out.2 i u h).mono hle2);have hkc2:=hkc.mono hle2;have HQ2:=Hd (show s1.cnt+(p++[k]).length<2 ^ 30 by
  have h1:=HP.out.2.2.2.1.cnt;have h2:=X3s HB.out.2.1;have h3:=HB.out.1;have h4:=HB.out.2.1;simp only[length_append,length_cons,length_nil];omega)
 have hcase:u.kind=0\/(∃r vs,v=.iface 283 (.map (some r))/\u.kind=6/\J.map r vs/\((vs.length:Int)==0)=true)\/(∃r vs,v=.iface 283 (.map (some r))/\u.kind=6/\J.map r vs/\((vs.length:Int)==0)=false)\/(u.kind≠0/\u.kind≠6):=by
  cases HU.out.1 with
  |null=>exact .inl rfl
  |map r vs ts hm hk h=>
   cases hb:((vs.length:Int)==0)
   ·exact .inr (.inr (.inl ⟨r,vs,rfl,rfl,hm,hb⟩))
   ·exact .inr (.inl ⟨r,vs,rfl,rfl,hm,hb⟩)
  |bool|int|flt|str|list=>exact .inr (.inr (.inr ⟨by simp[Tr.kind],by simp[Tr.kind]⟩))
 clear hkc HC hk1;rcases hcase with h0|⟨r1,vs,rfl,h6,hmap,hl⟩|⟨r1,vs,rfl,h6,hmap,hl⟩|⟨h0,h6⟩;iterate 2 (focus (
  have hv:=hc (b:=vb2) (j:=0) S
  go_wp2_with (first|go_at_call 385;refine(Q0g (Q6b HK.out _) S.out.inw).mono ?_;rintro e W ⟨rfl,st⟩;replace S:=Hd (S.out.call st);clear st;clear hv;have hv:=hc (b:=vb2) (j:=0) S|go_at_call 384;refine(Q0g (Q8k HK.out _) S.out.inw).mono ?_;rintro e W ⟨rfl,st⟩;replace S:=Hd (S.out.call st);clear st;clear hv;have hv:=hc (b:=vb2) (j:=0) S|go_at_call 377;refine(asMap_x _ _ S.out.inw).mono ?_;rintro e W ⟨rfl,st⟩;replace S:=Hd (S.out.call st);clear st;clear hv;have hv:=hc (b:=vb2) (j:=0) S|go_at_call 514;refine(Z4f _ _ _ ((hmap.mono (gT hle1 hle2)).at S.out.inw)).mono ?_;rintro e W2 ⟨rfl,rfl⟩|refine wk ?_)
  refine Rg S [(b2,L0f vb2 sb nb2 st pa2 (p.length+1) pc2 P al,.t 377)] [] [] [0,1,2,3,4,5,6,7] 1 fun W S=>?_
  refine tk1 ?_
  refine Wr [] 0 8 fun KK hKK=>?_
  go_simp
  have hins:=Q3t (pa:=pa2) (pc:=pc2) (p:=p++[k]) (bs:=bs++[kb]) HP.out.2.2.1 HP.out.2.2.2.1.ok (HQ.out.2.2.imp fun _ _ h=>h.mono HP.out.2.2.2.2) HQ2.out
  simp only[length_append,length_cons,length_nil,Nat.zero_add]at hins
  refine Q0a S hins ?_
  clear hins
  rintro r K L' R' W' hle ⟨rfl,hKJ,R3,rfl,hF3⟩ S2
  subst hKJ
  clear S
  have S:=S2
  clear S2
  replace S:=sa S
  refine Hk ?_
  refine yf ?_
  refine En ?_
  go_wp2_with (first|go_at_call 235;refine got S (Q3k _ mp k HC2.out.1) ?_;clear S;intro W S|refine wk ?_|refine X9l (sub:=(L1b nb2)) rf rfl rfl rfl HC2.out.2 S.out.inw ?_|refine Ws ?_;clear S;intro W S|refine wA ?_;clear S;intro _ W S|refine wB ?_;clear S;intro kb W S0;obtain⟨K1,hle1,hk1,S⟩:=S0.out.freeze;clear S0;replace S:=Hd S;have hkc2:K1.cell (ad kb 0) (.string k):=⟨_,_,_,hk1,rfl,rfl⟩)
  refine Q0a S (tfin_s (b:=b) (b2:=b2) (P:=P) (x:=kb) (vb:=vb) (sb:=sb) (nb:=nb) (st:=st) (al:=al) (q0:=.iface 339 (pt vb2)) (q1:=pt sb) (q2:=pt nb2) (q3:=pn) (q4:=pn) (q5:=pn) (q6:=pn) (q7:=.bool false) (q8:=pt st) (q10:=pt P) (q11:=.iface 340 (pt al)) (np:=p.length) (pa:=pa2) (pc:=pc2) (A0:=pa) (n0:=p.length) (c0:=pc) (bs:=bs) HP.out.2.1 (by have:=HU.out.2.2.2;have:=HP.out.1;omega) b2a HF.out.2.2.2.length) ?_
  rintro r K L5 R5 W' hle ⟨hKJ,PB3,PR3,hp3,rfl,rfl⟩ S2
  subst hKJ
  clear S
  have S:=S2
  clear S2
  replace S:=sa S
  go_wp2_with (first|go_at_call 235;refine got S (Q3k _ mp k HC2.out.1) ?_;clear S;intro W S|refine wk ?_|refine X9l (sub:=(L1b nb2)) rf rfl rfl rfl HC2.out.2 S.out.inw ?_|refine Ws ?_;clear S;intro W S|refine wA ?_;clear S;intro _ W S|refine wB ?_;clear S;intro kb W S0;obtain⟨K1,hle1,hk1,S⟩:=S0.out.freeze;clear S0;replace S:=Hd S;have hkc2:K1.cell (ad kb 0) (.string k):=⟨_,_,_,hk1,rfl,rfl⟩)
  go_ret
  refine ap (gT hle1 hle2) ⟨rfl,_,_,_,PB3,PR3,L',R3,pa2,pc2,(by have:=HP.out.1;have:=HU.out.2.2.1;omega),HQ.out.1,hp3,hF3,X7b HP.out.2.2.2.1 HB.out,rfl,rfl⟩ ?_
  exact(show St _ _ _ _ _ ((vb2,[_],.t 430)::(y1,[pt b],.t 370)::(y2,[pt mp],.t 109)::(y3,[sn],.t 373)::(b,L0f vb sb nb st pa2 p.length pc2 P al,.t 377)::(PB3++L')) (pathRw pa2 p.length pc2 bs::(PR3++R3))from keep S)))
 iterate 2 (focus (
  have hv:=hc (b:=vb2) (j:=0) S
  go_wp2_with (first|go_at_call 385;refine(Q0g (Q6b HK.out _) S.out.inw).mono ?_;rintro e W ⟨rfl,st⟩;replace S:=Hd (S.out.call st);clear st;clear hv;have hv:=hc (b:=vb2) (j:=0) S|go_at_call 384;refine(Q0g (Q8k HK.out _) S.out.inw).mono ?_;rintro e W ⟨rfl,st⟩;replace S:=Hd (S.out.call st);clear st;clear hv;have hv:=hc (b:=vb2) (j:=0) S|go_at_call 377;refine(asMap_x _ _ S.out.inw).mono ?_;rintro e W ⟨rfl,st⟩;replace S:=Hd (S.out.call st);clear st;clear hv;have hv:=hc (b:=vb2) (j:=0) S|go_at_call 514;refine(Z4f _ _ _ ((hmap.mono (gT hle1 hle2)).at S.out.inw)).mono ?_;rintro e W2 ⟨rfl,rfl⟩|refine wk ?_|go_at_call 235;refine(Q3k _ mp k HC2.out.1 _ S.out.inw).mono ?_;rintro e W ⟨rfl,st⟩;replace S:=Hd (S.out.call st);clear st|refine X9l (sub:=(L1b nb2)) rf rfl rfl rfl HC2.out.2 S.out.inw ?_|refine Ws ?_;clear S;intro W S|refine wA ?_;clear S;intro _ W S|refine wB ?_;clear S;intro kb W S0;obtain⟨K1,hle1,hk1,S⟩:=S0.out.freeze;clear S0;replace S:=Hd S;have hkc2:K1.cell (ad kb 0) (.string k):=⟨_,_,_,hk1,rfl,rfl⟩)
  refine Rg S [(b2,L0f vb2 sb nb2 st pa2 (p.length+1) pc2 P al,.t 377)] [] [] [0,1,2,3,4,5,6,7] 1 fun W S=>?_
  refine tk1 ?_
  refine Wr [] 0 8 fun KK hKK=>?_
  go_simp
  have hins:=Q3t (pa:=pa2) (pc:=pc2) (p:=p++[k]) (bs:=bs++[kb]) HP.out.2.2.1 HP.out.2.2.2.1.ok (HQ.out.2.2.imp fun _ _ h=>h.mono HP.out.2.2.2.2) HQ2.out
  simp only[length_append,length_cons,length_nil,Nat.zero_add]at hins
  refine Q0a S hins ?_
  clear hins
  rintro r K L' R' W' hle ⟨rfl,hKJ,R3,rfl,hF3⟩ S2
  subst hKJ
  clear S
  have S:=S2
  clear S2
  replace S:=sa S
  refine Hk ?_
  refine yf ?_
  refine En ?_
  go_wp2_with (first|go_at_call 235;refine got S (Q3k _ mp k HC2.out.1) ?_;clear S;intro W S|refine wk ?_|refine X9l (sub:=(L1b nb2)) rf rfl rfl rfl HC2.out.2 S.out.inw ?_|refine Ws ?_;clear S;intro W S|refine wA ?_;clear S;intro _ W S|refine wB ?_;clear S;intro kb W S0;obtain⟨K1,hle1,hk1,S⟩:=S0.out.freeze;clear S0;replace S:=Hd S;have hkc2:K1.cell (ad kb 0) (.string k):=⟨_,_,_,hk1,rfl,rfl⟩)
  refine Q0a S (tfin_s (b:=b) (b2:=b2) (P:=P) (x:=kb) (vb:=vb) (sb:=sb) (nb:=nb) (st:=st) (al:=al) (q0:=.iface 339 (pt vb2)) (q1:=pt sb) (q2:=pt nb2) (q3:=pn) (q4:=pn) (q5:=pn) (q6:=pn) (q7:=.bool false) (q8:=pt st) (q10:=pt P) (q11:=.iface 340 (pt al)) (np:=p.length) (pa:=pa2) (pc:=pc2) (A0:=pa) (n0:=p.length) (c0:=pc) (bs:=bs) HP.out.2.1 (by have:=HU.out.2.2.2;have:=HP.out.1;omega) b2a HF.out.2.2.2.length) ?_
  rintro r K L5 R5 W' hle ⟨hKJ,PB3,PR3,hp3,rfl,rfl⟩ S2
  subst hKJ
  clear S
  have S:=S2
  clear S2
  replace S:=sa S
  go_wp2_with (first|go_at_call 235;refine got S (Q3k _ mp k HC2.out.1) ?_;clear S;intro W S|refine wk ?_|refine X9l (sub:=(L1b nb2)) rf rfl rfl rfl HC2.out.2 S.out.inw ?_|refine Ws ?_;clear S;intro W S|refine wA ?_;clear S;intro _ W S|refine wB ?_;clear S;intro kb W S0;obtain⟨K1,hle1,hk1,S⟩:=S0.out.freeze;clear S0;replace S:=Hd S;have hkc2:K1.cell (ad kb 0) (.string k):=⟨_,_,_,hk1,rfl,rfl⟩)
  go_ret
  refine ap (gT hle1 hle2) ⟨rfl,_,_,_,PB3,PR3,L',R3,pa2,pc2,(by have:=HP.out.1;have:=HU.out.2.2.1;omega),HQ.out.1,hp3,hF3,X7b HP.out.2.2.2.1 HB.out,rfl,rfl⟩ ?_
  exact(show St _ _ _ _ _ ((vb2,[_],.t 430)::(y1,[pt b],.t 370)::(y2,[pt mp],.t 109)::(y3,[sn],.t 373)::(b,L0f vb sb nb st pa2 p.length pc2 P al,.t 377)::(PB3++L')) (pathRw pa2 p.length pc2 bs::(PR3++R3))from keep S)))
end
end Go.Proofs.YtbmklgemmjgjfaaGreat
