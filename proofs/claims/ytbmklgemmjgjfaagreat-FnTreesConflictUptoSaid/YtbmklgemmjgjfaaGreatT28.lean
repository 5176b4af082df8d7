/- Part 28: Vpm, Mpu, Vtu, Cnt, Vtx. -/
import Derived.Test.YtbmklgemmjgjfaaGreatT20
import Derived.Test.YtbmklgemmjgjfaaGreatT26
namespace Go.Proofs.YtbmklgemmjgjfaaGreat
open List (append_assoc append_nil cons_append filter_cons length_cons length_nil map_cons map_nil mem_cons mem_cons_self nil_append pairwise_cons)
open Go.RowKit Go.Maps Tryz
set_option linter.unusedVariables false
set_option linter.unusedSimpArgs false
set_option maxRecDepth 100000
set_option maxHeartbeats 4000000
variable{bs:List Nat}{PR:List Rw}{PB:List Blk}{pa:OA}{b sb nb al n pc vb:Nat}{J:Gh}
section
theorem list16{l:List Value}(h:l.length=16):∃za zb zc zd ze zf zg zh zi zj zk zl zm zn zo zp,l=[za,zb,zc,zd,ze,zf,zg,zh,zi,zj,zk,zl,zm,zn,zo,zp]:=by
 match l,h with
 |[za,zb,zc,zd,ze,zf,zg,zh,zi,zj,zk,zl,zm,zn,zo,zp],_=>exact⟨za,zb,zc,zd,ze,zf,zg,zh,zi,zj,zk,zl,zm,zn,zo,zp,rfl⟩
variable{x np:Nat}{lv rv:Value}
theorem mprep_s{nb2:Nat}{sp:OA}(hlv:lv.oneCell'=true)(hrv:rv.oneCell'=true)(hp:Pool 460 693 456 16 n sp PB PR)(hn:n<2 ^ 30)(hnp:np<2 ^ 30):
  Ac 475 #[pt b,Q3u x,Q0v nb2] J ((b,[lv,rv,pt sb,pt nb,pn,pn,pn,pn,.bool false,.slice pa np pc,.func (.func 182) #[] #[],.nilFunc,pn,.bool false,.pointer sp,.iface 340 (pt al)],.t 460)::PB) (pathRw pa np pc bs::PR) fun u K L' R'=>K=J/\∃b2 P PB' A1 c1 PR',u=pt b2/\Q3b sp (some (ad P 0))/\Pool 460 693 456 16 (n -1) (some (ad P 0)) PB' PR'/\L'=(b,[lv,rv,pt sb,pt nb,pn,pn,pn,pn,.bool false,.slice pa np pc,.func (.func 182) #[] #[],.nilFunc,pn,.bool false,pt P,.iface 340 (pt al)],.t 460)::(b2,L1p sb nb2 A1 (np+1) c1 P al,.t 460)::PB'/\R'=pathRw A1 (np+1) c1 (bs++[x])::PR':=by
 unfold Q0v Q3u;intro M I w W S;have HN:=Hd (And.intro hn hnp);clear hnp;have HLR:=Hd (And.intro hlv hrv);clear hlv hrv;cases hp with
 |nil=>
  clear hn;go_enter func475,ntmps475;go_wp2_with (first|refine wk ?_|refine Z0s S rfl rfl rfl b0s b0d ?_;clear S;intro W S|refine Q0q (t:=693) (e:=456) S (Q0b rf _) rf underlying693 kr 1 ?_;clear S;intro ys W S|refine wn ?_;clear S;(first|(fail_if_success revert ye);intro ye W S|(fail_if_success revert y);intro y W S|(fail_if_success revert P);intro P W S|intro y2 W S))
  replace S:=Lib.row1 S ⟨.slice pa np pc,358,4,np,bs.flatMap Q0i⟩;refine Rg S [(y2,[lv,rv,pt sb,pt nb2,pn,pn,pn,pn,.bool false,.slice pa np pc,.func (.func 182) #[] #[],.nilFunc,pn,.bool false,pt P,.iface 340 (pt al)],.t 460),(ye,L1m x,.t 358)] [] [10] [0,1,2,3,4,5] 5 fun W S=>?_;refine Zw [] 4 6 ?_;intro KK hKK;refine Q1s S rfl underlying251 rfl ?_;clear S;intro ye1 W S;refine Yw [8,9] 1 7 ?_;intro KK hKK;refine Q1m S rfl rfl rfl underlying251 Q4v rfl b1e ?_;clear S;intro A1 c1 W S;refine Ht ?_;refine Cl 10 fun KK hKK=>?_;refine Q0j (v:=.slice A1 (np+1) c1) S rfl rfl rfl rfl ?_;clear S;intro W S;refine hKK.out _ _ (NoPanic.normal ?_);clear hKK KK;go_wp2_with (first|refine wk ?_|refine Z0s S rfl rfl rfl b0s b0d ?_;clear S;intro W S|refine Q0q (t:=693) (e:=456) S (Q0b rf _) rf underlying693 kr 1 ?_;clear S;intro ys W S|refine wn ?_;clear S;(first|(fail_if_success revert ye);intro ye W S|(fail_if_success revert y);intro y W S|(fail_if_success revert P);intro P W S|intro y2 W S))
  go_ret;refine ap gR ⟨rfl,y2,P,_,A1,c1,_,rfl,.none,.empty P (some (ad ys 0)) 0,rfl,rfl⟩ ?_;simp only[pathRw,Q4f];exact(show St _ _ _ _ _ ((b,[lv,rv,pt sb,pt nb,pn,pn,pn,pn,.bool false,.slice pa np pc,.func (.func 182) #[] #[],.nilFunc,pn,.bool false,pt P,.iface 340 (pt al)],.t 460)::(y2,L1p sb nb2 A1 (np+1) c1 P al,.t 460)::[(P,[.slice (some (ad ys 0)) 0 0],.t 693)]) (⟨.slice A1 (np+1) c1,358,4,np+1,bs.flatMap Q0i++(L1m x)⟩::[⟨.slice (some (ad ys 0)) 0 0,456,1,0,[]⟩])from keep S)
 |some P A c ws h=>
  rcases List.eq_nil_or_concat ws with rfl|⟨wi,⟨b2,c2⟩,rfl⟩
  ·clear hn;go_enter func475,ntmps475;simp only[length_nil,map_nil]at S;go_wp2_with (first|refine wk ?_|refine Z0s S rfl rfl rfl b0s b0d ?_;clear S;intro W S|refine Q0q (t:=693) (e:=456) S (Q0b rf _) rf underlying693 kr 1 ?_;clear S;intro ys W S|refine wn ?_;clear S;(first|(fail_if_success revert ye);intro ye W S|(fail_if_success revert y);intro y W S|(fail_if_success revert P);intro P W S|intro y2 W S))
   replace S:=Lib.row1 S ⟨.slice pa np pc,358,4,np,bs.flatMap Q0i⟩;refine Rg S [(y2,[lv,rv,pt sb,pt nb2,pn,pn,pn,pn,.bool false,.slice pa np pc,.func (.func 182) #[] #[],.nilFunc,pn,.bool false,pt P,.iface 340 (pt al)],.t 460),(ye,L1m x,.t 358)] [] [10] [0,1,2,3,4,5] 5 fun W S=>?_;refine Zw [] 4 6 ?_;intro KK hKK;refine Q1s S rfl underlying251 rfl ?_;clear S;intro ye1 W S;refine Yw [8,9] 1 7 ?_;intro KK hKK;refine Q1m S rfl rfl rfl underlying251 Q4v rfl b1e ?_;clear S;intro A1 c1 W S;refine Ht ?_;refine Cl 10 fun KK hKK=>?_;refine Q0j (v:=.slice A1 (np+1) c1) S rfl rfl rfl rfl ?_;clear S;intro W S;refine hKK.out _ _ (NoPanic.normal ?_);clear hKK KK;go_wp2_with (first|refine wk ?_|refine Z0s S rfl rfl rfl b0s b0d ?_;clear S;intro W S|refine Q0q (t:=693) (e:=456) S (Q0b rf _) rf underlying693 kr 1 ?_;clear S;intro ys W S|refine wn ?_;clear S;(first|(fail_if_success revert ye);intro ye W S|(fail_if_success revert y);intro y W S|(fail_if_success revert P);intro P W S|intro y2 W S))
   go_ret;refine ap gR ⟨rfl,y2,P,_,A1,c1,_,rfl,.same,.empty P A c,rfl,rfl⟩ ?_;simp only[pathRw,Q4f];exact(show St _ _ _ _ _ ((b,[lv,rv,pt sb,pt nb,pn,pn,pn,pn,.bool false,.slice pa np pc,.func (.func 182) #[] #[],.nilFunc,pn,.bool false,pt P,.iface 340 (pt al)],.t 460)::(y2,L1p sb nb2 A1 (np+1) c1 P al,.t 460)::[(P,[.slice A 0 c],.t 693)]) (⟨.slice A1 (np+1) c1,358,4,np+1,bs.flatMap Q0i++(L1m x)⟩::[⟨.slice A 0 c,456,1,0,[]⟩])from keep S)
  ·obtain⟨N,hN⟩:∃N,N=wi.length:=⟨_,rfl⟩
   have HW:=Hd (And.intro hN h);simp only[List.concat_eq_append,List.length_append,length_cons,length_nil,Nat.zero_add,List.map_append,map_cons,map_nil,<-hN]at S;have hNb:N+1<2 ^ 30:=by simpa[hN]using hn
   have hw:IntKind.i64.wrap (N:Int)=N:=by rw[IntKind.wrap_i64];omega
   have hN1:((N:Int)<(N:Int)+1)=True:=eq_true om;clear hN h hn;replace S:=Lib.row1 S ⟨.slice A (N+1) c,456,1,N+1,wi.map wptr++[wptr (b2,c2)]⟩;obtain⟨g,hA,hNc⟩:=Z0g S.out rfl;subst hA;go_enter func475,ntmps475;go_wp2_with (first|refine wk ?_|refine Z0s S rfl rfl rfl b0s b0d ?_;clear S;intro W S|refine Q0q (t:=693) (e:=456) S (Q0b rf _) rf underlying693 kr 1 ?_;clear S;intro ys W S|refine wn ?_;clear S;(first|(fail_if_success revert ye);intro ye W S|(fail_if_success revert y);intro y W S|(fail_if_success revert P);intro P W S|intro y2 W S))
   refine Rg S [(b,[lv,rv,pt sb,pt nb,pn,pn,pn,pn,.bool false,.slice pa np pc,.func (.func 182) #[] #[],.nilFunc,pn,.bool false,pt P,.iface 340 (pt al)],.t 460),(P,[.slice (some (ad g 0)) (N+1) c],.t 693)] [⟨.slice (some (ad g 0)) (N+1) c,456,1,N+1,wi.map wptr++[wptr (b2,c2)]⟩] [25] [0,1,2,3,4,5,6,7,8,9,10,11,12,13,14,15,16,17,18,19,20,21,22,23,24] 1 fun W S=>?_;refine tk34 ?_;refine Cl 25 fun KK hKK=>?_;refine Q0j (v:=.slice (some (ad g 0)) N c) S rfl rfl rfl rfl ?_;clear S;intro W S;refine hKK.out _ _ (NoPanic.normal ?_);clear hKK KK;have hsz:=Hd (show N=(wi.concat (b2,c2)).length -1 by rw[HW.out.1];simp);obtain⟨za,zb,zc,zd,ze,zf,zg,zh,zi,zj,zk,zl,zm,zn,zo,zp,hc2⟩:=list16 (HW.out.2 (b2,c2) b0f);subst hc2;replace S:=Hd (S.out.rshrink HW.out.1).lastfront4;have hh:∀x∈wi,x.2.length=16:=fun x hx=>HW.out.2 x (by simp[hx]);have HW:=Hd (And.intro HW.out.1 hh);clear hh hN1 hw hNb;replace S:=S.out;go_wp2_with (first|refine wk ?_|refine Z0s S rfl rfl rfl b0s b0d ?_;clear S;intro W S|refine Q0q (t:=693) (e:=456) S (Q0b rf _) rf underlying693 kr 1 ?_;clear S;intro ys W S|refine wn ?_;clear S;(first|(fail_if_success revert ye);intro ye W S|(fail_if_success revert y);intro y W S|(fail_if_success revert P);intro P W S|intro y2 W S))
   replace S:=Lib.row1 S ⟨.slice pa np pc,358,4,np,bs.flatMap Q0i⟩;refine Rg S [(b2,[lv,rv,pt sb,pt nb2,pn,pn,pn,pn,.bool false,.slice pa np pc,.func (.func 182) #[] #[],.nilFunc,pn,.bool false,pt P,.iface 340 (pt al)],.t 460),(ye,L1m x,.t 358)] [] [10] [0,1,2,3,4,5] 5 fun W S=>?_;refine Zw [] 4 6 ?_;intro KK hKK;refine Q1s S rfl underlying251 rfl ?_;clear S;intro ye1 W S;refine Yw [8,9] 1 7 ?_;intro KK hKK;refine Q1m S rfl rfl rfl underlying251 Q4v rfl b1e ?_;clear S;intro A1 c1 W S;refine Ht ?_;refine Cl 10 fun KK hKK=>?_;refine Q0j (v:=.slice A1 (np+1) c1) S rfl rfl rfl rfl ?_;clear S;intro W S;refine hKK.out _ _ (NoPanic.normal ?_);clear hKK KK;go_wp2_with (first|refine wk ?_|refine Z0s S rfl rfl rfl b0s b0d ?_;clear S;intro W S|refine Q0q (t:=693) (e:=456) S (Q0b rf _) rf underlying693 kr 1 ?_;clear S;intro ys W S|refine wn ?_;clear S;(first|(fail_if_success revert ye);intro ye W S|(fail_if_success revert y);intro y W S|(fail_if_success revert P);intro P W S|intro y2 W S))
   go_ret;refine ap gR ⟨rfl,b2,P,_,A1,c1,_,rfl,.same,Pool.of P (some (ad g 0)) c wi HW.out.2 HW.out.1 hsz.out,rfl,rfl⟩ ?_;simp only[pathRw,Q4f];exact(show St _ _ _ _ _ ((b,[lv,rv,pt sb,pt nb,pn,pn,pn,pn,.bool false,.slice pa np pc,.func (.func 182) #[] #[],.nilFunc,pn,.bool false,pt P,.iface 340 (pt al)],.t 460)::(b2,L1p sb nb2 A1 (np+1) c1 P al,.t 460)::((P,[.slice (some (ad g 0)) N c],.t 693)::wi.map (wblk 460))) (⟨.slice A1 (np+1) c1,358,4,np+1,bs.flatMap Q0i++(L1m x)⟩::[⟨.slice (some (ad g 0)) N c,456,1,N,wi.map wptr⟩])from keep S)
theorem in456:Inf prog 456 (pn) 1 8:=by unfold Inf;kernel_rfl
theorem mfin_s{b2 P:Nat}{q0 q1 q2 q3 q4 q5 q6 q7 q8 q10 q11 q12 q13 q14 q15:Value}{n0 c0:Nat}{A0:OA}(hp:Pool 460 693 456 16 n (some (ad P 0)) PB PR)(hn:n<2 ^ 30)(hnp:np<2 ^ 30)(hbs:bs.length=np):
  Ac 476 #[pt b,pt b2] J ((b,[lv,rv,pt sb,pt nb,pn,pn,pn,pn,.bool false,.slice A0 n0 c0,.func (.func 182) #[] #[],.nilFunc,pn,.bool false,pt P,.iface 340 (pt al)],.t 460)::(b2,[q0,q1,q2,q3,q4,q5,q6,q7,q8,.slice pa (np+1) pc,q10,q11,q12,q13,q14,q15],.t 460)::PB) (pathRw pa (np+1) pc (bs++[x])::PR) fun u K L' R'=>K=J/\∃PB' PR',Pool 460 693 456 16 (n+1) (some (ad P 0)) PB' PR'/\L'=(b,[lv,rv,pt sb,pt nb,pn,pn,pn,pn,.bool false,.slice pa np pc,.func (.func 182) #[] #[],.nilFunc,pn,.bool false,pt P,.iface 340 (pt al)],.t 460)::PB'/\R'=pathRw pa np pc bs::PR':=by
 intro M I w W S;rcases hp with _|⟨_,A,c,ws,h⟩;obtain⟨N,hN⟩:∃N,N=ws.length:=⟨_,rfl⟩
 rw[<-hN]at S hn;have HN:=Hd (And.intro hn hnp);have HW:=Hd (And.intro hN h);obtain⟨g,hA,hNc⟩:=Z0g S.out rfl;subst hA;replace S:=Hd (S.out.pathcut hbs);have hw:IntKind.i64.wrap (np:Int)=np:=by rw[IntKind.wrap_i64];omega
 have hN1:((np:Int)<(np:Int)+1)=True:=eq_true om;clear hN h hbs hn hnp;replace S:=Lib.row1 S ⟨.slice A N c,456,1,N,ws.map wptr⟩;go_enter func476,ntmps476;go_wp2_with fail
 refine Rg S [(b,[lv,rv,pt sb,pt nb,pn,pn,pn,pn,.bool false,.slice A0 n0 c0,.func (.func 182) #[] #[],.nilFunc,pn,.bool false,pt P,.iface 340 (pt al)],.t 460),(b2,[q0,q1,q2,q3,q4,q5,q6,q7,q8,.slice (some (ad g 0)) (np+1) pc,q10,q11,q12,q13,q14,q15],.t 460)] [] [14] [0,1,2,3,4,5,6,7,8,9,10,11,12,13] 1 fun W S=>?_;refine tk1 ?_;refine Cl 14 fun KK hKK=>?_;refine Q0j (v:=.slice (some (ad g 0)) np pc) S rfl rfl rfl rfl ?_;clear S;intro W S;refine hKK.out _ _ (NoPanic.normal ?_);clear hKK KK;go_wp2_with fail
 refine Rg S [(b,[lv,rv,pt sb,pt nb,pn,pn,pn,pn,.bool false,.slice (some (ad g 0)) np pc,.func (.func 182) #[] #[],.nilFunc,pn,.bool false,pt P,.iface 340 (pt al)],.t 460),(P,[.slice A N c],.t 693)] [] [14] [0,1,2,3,4,5,6,7,8,9,10] 4 fun W S=>?_;refine Zw [] 3 11 ?_;intro KK hKK;refine Q1s S rfl underlying693 rfl ?_;clear S;intro y1 W S;refine Yw [13] 1 12 ?_;intro KK hKK;refine Q1m S rfl rfl rfl underlying693 in456 rfl (by have:=HN.out.1;omega) ?_;clear S;intro A1 c1 W S;refine Ht ?_;refine Cl 14 fun KK hKK=>?_;refine Q0j (v:=.slice A1 (N+1) c1) S rfl rfl rfl rfl ?_;clear S;intro W S;refine hKK.out _ _ (NoPanic.normal ?_);clear hKK KK;go_wp2_with fail
 refine bT ?_;exact ap gR ⟨rfl,_,_,Pool.of P A1 c1 (ws++[(b2,[q0,q1,q2,q3,q4,q5,q6,q7,q8,.slice (some (ad g 0)) (np+1) pc,q10,q11,q12,q13,q14,q15])]) (fun x hx=>(List.mem_append.1 hx).elim (HW.out.2 x) fun e=>by rw[List.mem_singleton.1 e];rfl) (by simp[HW.out.1]) (by rw[HW.out.1]),rfl,rfl⟩ (Z4u S)
end
section
theorem Z1f(a b:BA):(klit a).before (klit b)=klt a b:=rfl
theorem X9e{r:KV}{k:BA}(h:∀p∈r,p.1≠k):(r.map fun p=>(klit p.1,DataW.held p.2)).filter (fun p=>!p.1.sameKey (klit k))=r.map fun p=>(klit p.1,DataW.held p.2):=by
 rw[List.filter_eq_self];intro q hq;obtain⟨p,hp,rfl⟩:=List.mem_map.1 hq;simp[Q2u,h p hp]
theorem X6u:∀{m:KV} (k:BA) (v:Value),Q0n m->DataW.insert (klit k,DataW.held v) ((m.map fun p=>(klit p.1,DataW.held p.2)).filter (fun p=>!p.1.sameKey (klit k)))=(insK m k v).map fun p=>(klit p.1,DataW.held p.2)
 |[],k,v,_=>rfl
 |p::m,k,v,hs=>by
  have ht:Q0n m:=(pairwise_cons.1 hs).2;have hlt:∀q∈m,klt p.1 q.1=true:=(pairwise_cons.1 hs).1;unfold insK;by_cases h1:klt p.1 k=true
  ·rw[if_pos h1];have hne:p.1≠k:=Q7a h1;rw[map_cons,filter_cons,if_pos (by simp[Q2u,hne])];show(if(klit k).before (klit p.1)then _ else _)=_;rw[Z1f,X3h h1,if_neg b0f,X6u k v ht];rfl
  ·rw[if_neg h1];by_cases h2:p.1=k
   ·subst h2;rw[if_pos rfl,map_cons,filter_cons,if_neg (by simp[Q2u]),X9e fun q hq=>(Q7a (hlt q hq)).symm];cases m with
    |nil=>rfl
    |cons q m=>
     show(if(klit p.1).before (klit q.1)then _ else _)=_;rw[Z1f,hlt q (mem_cons_self ..),if_pos rfl];rfl
   ·rw[if_neg h2];have h3:klt k p.1=true:=by
     rcases Q5r h2 with h|h
     ·exact absurd h h1
     ·exact h
    have hall:∀q∈p::m,q.1≠k:=by
     intro q hq;rcases mem_cons.1 hq with rfl|hq
     ·exact h2
     ·exact(Q7a (Q2g h3 (hlt q hq))).symm
    rw[X9e hall];show(if(klit k).before (klit p.1)then _ else _)=_;rw[Z1f,h3,if_pos rfl];rfl
variable{m:KV}
theorem DM_put(hs:Q0n m)(k:BA)(v:Value):(DM m).put (klit k) (.held v)=DM (insK m k v):=by
 show DataW.map _=DataW.map _;rw[X6u k v hs]
def delK{α:Type}(m:List (BA×α))(k:BA):List (BA×α):=m.filter fun p=>!decide (p.1=k)
theorem DM_del(m:KV)(k:BA):(DM m).del (klit k)=DM (delK m k):=by
 show DataW.map _=DataW.map _;congr 1;induction m with
 |nil=>rfl
 |cons p m ih=>
  rw[map_cons,filter_cons];unfold delK at ih⊢;rw[filter_cons];by_cases h:p.1=k
  ·rw[if_neg (by simp[Q2u,h]),if_neg (by simp[h]),ih]
  ·rw[if_pos (by simp[Q2u,h]),if_pos (by simp[h]),map_cons,ih]
theorem X5m{α:Type}{m:List (BA×α)}(h:Q0n m)(k:BA):Q0n (delK m k):=h.filter _
theorem findK_delK{α:Type}(m:List (BA×α))(k l:BA):findK (delK m k) l=if l=k then none else findK m l:=by
 induction m with
 |nil=>simp[delK,findK]
 |cons p m ih=>
  unfold delK at ih⊢;rw[filter_cons];by_cases h:p.1=k
  ·rw[if_neg (by simp[h]),ih,Q0k];by_cases e:l=k
   ·simp[e]
   ·rw[if_neg e,if_neg e,if_neg (by rw[h];exact fun x=>e x.symm)]
  ·rw[if_pos (by simp[h]),Q0k,Q0k,ih];by_cases e:l=k
   ·subst e;simp[h]
   ·simp[e]
theorem Z5p{W:World}{r n:Nat}(h:W.ownsMap prog 9 RV r n (DM m)):Q3z W r m:=by
 obtain⟨es,clock,h1,F,hs,hD⟩:=h;have h2:m.map (fun p=>(klit p.1,DataW.held p.2))=(es.toList.map (Go.WideElems.rg prog 9 RV)).foldr DataW.insert []:=by
  simpa[DM]using hD
 have h3:=congrArg List.length h2;rw[length_sorted]at h3;simp at h3;exact⟨es,clock,h1,F,by omega,hD⟩
section
variable{M:Nat->Prop}{I J:Gh}{w W W':World}{L:List Blk}{R:List Rw}{r:Nat}{e e':KV}{cs:List Value}{ops:Array Oper}{rest:List Oper}{o:Oper}{a:Act}{Q:EAW}{K:AW}{T el:TypeId}{m x y:Operand}{s:BA}{v:Value}
theorem St.sorted(S:St M I J w W ((r,cs,.m e)::L) R):Q0n e:=by
 obtain⟨o,_,h⟩:=Q3z.obj (show Q3z W r e from(S.own _ (mem_cons_self ..)).1);exact h.sorted
theorem St.turnmap(S:St M I J w W ((r,cs,.m e)::L) R)(hm:Q3z W' r e')(hg:W.grownBy W' (some r)):St M I J w W' ((r,cs,.m e')::L) R:=by
 have h0:=S.own _ (mem_cons_self ..);have hne:∀x∈L,x.1≠r:=fun x hx=>((pairwise_cons.1 S.nodup).1 x hx).symm;refine⟨S.step.grown hg fun k hk=>(by cases hk;exact h0.2),fun x hx=>?_,pairwise_cons.2 ⟨(pairwise_cons.1 S.nodup).1,(pairwise_cons.1 S.nodup).2⟩,fun q hq=>?_,S.rdis⟩
 ·rcases mem_cons.1 hx with rfl|hx
  ·exact⟨hm,h0.2⟩
  ·have h1:=S.own x (List.mem_cons_of_mem _ hx);exact⟨h1.1.keep (hg.block _ h1.1.lt fun e=>hne x hx (Option.some.inj e)),h1.2⟩
 ·have h1:=S.rows q hq;refine⟨Q1q h1.1 fun g hg'=>hg.block g (S.rlt hq hg') fun e=>((h1.2 g hg').2.2 _ (mem_cons_self ..)) (Option.some.inj e).symm,fun g hg'=>⟨(h1.2 g hg').1,(h1.2 g hg').2.1,fun y hy=>?_⟩⟩;rcases mem_cons.1 hy with rfl|hy
  ·exact(h1.2 g hg').2.2 (r,cs,.m e) (mem_cons_self ..)
  ·exact(h1.2 g hg').2.2 y (List.mem_cons_of_mem _ hy)
theorem Z5j(S:Hid (St M I J w W ((r,cs,.m e)::L) R))(ho:o.op=.mapUpdate T m x y)(hm:a.eval m=.map (some r))(hx:a.eval x=.string s)(hy:a.eval y=v)(ht:prog.underlying T=some (.map 9 el))(hn:e.length<maxLen)(hs:s.size<=maxLen)
  (h:∀W',Hid (St M I J w W' ((r,cs,.m (insK e s v))::L) R)->K (a.put o.dst undef) W'):o.wp prog a W K Q:=by
 obtain⟨w',hrun,r1,r2⟩:=World.ownsMap.update (show W.ownsMap prog 9 RV r e.length (DM e)from(S.out.own _ (mem_cons_self ..)).1) law9 ht hn (key9 hs) (d:=.held v) (ps:=[]) rfl;rw[DM_put S.out.sorted]at r1;unfold Oper.wp;simp[execOp,ho,hm,hx,hy,hrun,Result.andThen];exact h w' (S.out.turnmap (Z5p r1) r2)
theorem X6y(S:Hid (St M I J w W ((r,cs,.m e)::L) R))(hg:o.guard=none)(ho:o.op=.mapUpdate T m x y)(hm:a.eval m=.map (some r))(hx:a.eval x=.string s)(hy:a.eval y=v)(ht:prog.underlying T=some (.map 9 el))(hn:e.length<maxLen)(hs:s.size<=maxLen)
  (h:∀W',Hid (St M I J w W' ((r,cs,.m (insK e s v))::L) R)->wpList prog ops Q rest (a.put o.dst undef) W'):wpList prog ops Q (o::rest) a W:=Q0l (Q0b hg _) fun _ hK=>Z5j S ho hm hx hy ht hn hs fun W' S'=>hK _ _ (h W' S')
end
end
section
def tInv(y1 y2 y3 b mp vb sb nb st al N D:Nat)(sp:OA)(s:FS)(p:List PE)(bs:List Nat)(ts:KT)(left:BA->Bool)(K:Gh)(L':List Blk)(R':List Rw):Prop:=
 ∃s' n' sp' PB' PR' SL' SR' pa' pc' c,n'<=N/\Q3b sp sp'/\Pool 377 643 370 12 n' sp' PB' PR'/\FO K st s' SL' SR'/\Gath s p (GatM (fun k=>!left k) ts) c s'/\c+wtM D left ts<=2*Q0p ts*D/\L'=tL y1 y2 y3 b mp vb sb nb st al (.slice pa' p.length pc') sp'++(PB'++SL')/\R'=pathRw pa' p.length pc' bs::(PR'++SR')
variable{ts:KT}
theorem gatM_step{left:BA->Bool}{k:BA}{u:Tr}(hk:findK ts k=some u)(r:List PE):(GatM (fun z=>!left z) ts r\/∃x,r=k::x/\(x=[]\/x∈Q0f u))<->GatM (fun z=>!(left z&&!decide (z=k))) ts r:=by
 constructor
 ·rintro(⟨l,w,x,h1,h2,h3,h4⟩|⟨x,rfl,h⟩)
  ·exact⟨l,w,x,by simp at h1;simp[h1],h2,h3,h4⟩
  ·exact⟨k,u,x,by simp,hk,rfl,h⟩
 ·rintro⟨l,w,x,h1,h2,rfl,h4⟩;by_cases e:l=k
  ·subst e;rw[hk]at h2;cases h2;exact .inr ⟨x,rfl,h4⟩
  ·exact .inl ⟨l,w,x,by simpa[e]using h1,h2,rfl,h4⟩
theorem gatM_all(h:Q0n ts)(r:List PE):GatM (fun _=>!false) ts r<->r∈Q1u ts:=by
 rw[Q7x];constructor
 ·rintro⟨k,u,x,_,h2,h3,h4⟩;exact⟨k,u,x,Q0o h2,h3,h4⟩
 ·rintro⟨k,u,x,h2,h3,h4⟩;exact⟨k,u,x,rfl,Q3g h h2,h3,h4⟩
theorem dle2(D:Nat)(u:Tr):2*D<=2*u.size*D:=by
 have h1:1*D<=u.size*D:=Nat.mul_le_mul_right D (Q1l u);rw[Nat.mul_assoc];omega
variable{VB SL:List Blk}{st N c z D mp nb2 r:Nat}{A:List PE->Prop}{p:List PE}{s:FS}{sp:OA}
theorem Q9x{B:List PE->Prop}{d:Nat}{u:Value}{K:Gh}{L':List Blk}{R':List Rw}(h:Z9w b vb sb nb st al N sp s p bs A c VB u K L' R')(e:∀r,A r<->B r)(hc:c<=d):Z9w b vb sb nb st al N sp s p bs B d VB u K L' R':=by
 obtain⟨hu,s',n',sp',PB',PR',SL,SR,pa,pc,h1,h2,h3,h4,h5,h6,h7⟩:=h;exact⟨hu,s',n',sp',PB',PR',SL,SR,pa,pc,h1,h2,h3,h4,h5.conv e hc,h6,h7⟩
variable{vs:KV}{SR:List Rw}
theorem titer_s{y1 y2 y3 al2:Nat}{VB:List Blk}(IH:TAll z)(hm:J.map r vs)(hkk:vs.map (·.1)=ts.map (·.1))(h:∀(i:Nat) v t,vs[i]?=some v->ts[i]?=some t->Q0r J v.2 t.2)(hN:1+Q0p ts<=N)(hz:Q0p ts<=z)(hnN:n<=N/\N<2 ^ 30)(hs:Q2c J sb)(hnm:Nm J nb2 nmDe)(hmp:J mp=some (.cells (L1a nb2 Q6r).toArray 337 (0,0)))
  (hp:Pool 377 643 370 12 n sp PB PR)(hF:FO J st s SL SR)(hok:s.ok)(hpp:All2 (Nm J) bs p)(hD:p.length+1+Q0p ts<=D)(hc:s.cnt+2*Q0p ts*D<2 ^ 30):
  Ac 513 #[.map (some r),.iface 340 (pt al2),.func (.func 404) #[] (L1o y2 y1 y3).toArray] J (tL y1 y2 y3 b mp vb sb nb st al (.slice pa p.length pc) sp++(PB++SL)) (pathRw pa p.length pc bs::(PR++SR))
   fun u K L' R'=>u=.bool true/\tInv y1 y2 y3 b mp vb sb nb st al N D sp s p bs ts (fun _=>false) K L' R':=by
 have hw0:=X7g D (fun k=>(findK vs k).isSome) ts;refine(Z2k 404 (L1o y2 y1 y3).toArray (ad al2 0) r vs J (tL y1 y2 y3 b mp vb sb nb st al (.slice pa p.length pc) sp++(PB++SL)) (pathRw pa p.length pc bs::(PR++SR)) hm (Go.MuLone.run_callFunc_enter func404 kr rfl)
  (fun s v hf=>?_) (fun left K L' R'=>tInv y1 y2 y3 b mp vb sb nb st al N D sp s p bs ts left K L' R') ⟨s,n,sp,PB,PR,SL,SR,pa,pc,0,hnN.1,.same,hp,hF,(Gath.refl hok).conv (fun r=>⟨False.elim,?_⟩) (Nat.le_refl _),by omega,rfl,rfl⟩ ?_).mono ?_
 ·obtain⟨i,u,h1,h2,_⟩:=Q3p hkk hf;exact⟨_,(h i _ _ h1 h2).ak⟩
 ·rintro⟨k,u,x,h1,h2,_⟩;obtain⟨i,v,h3,h4,h5⟩:=Q3p hkk.symm h2;simp[h5]at h1
 ·rintro left K L' R' k v vb2 hle ⟨s',n',sp',PB',PR',SL',SR',pa',pc',c,g1,g2,g3,g4,g5,g6,rfl,rfl⟩ hs1 hl hf;obtain⟨i,u,h1,h2,h3⟩:=Q3p hkk hf;have hz1:=Z0o h2;have hw:=Z8n (D:=D) hl h3;have hc1:=g5.cnt;refine(tclo_s IH ((h i _ _ h1 h2).mono hle) (D:=D) (N:=N) b1y b1y ⟨g1,hnN.2⟩ (hs.mono hle) (hnm.mono hle) (hle _ _ hmp) g3 g4 g5.ok (hpp.imp fun _ _ h=>h.mono hle) b1y (by simp only at hw⊢;omega) hs1).mono ?_;rintro u' K2 L2 R2 hle2 ⟨hu,s2,n2,sp2,PB2,PR2,SL2,SR2,pa2,pc2,e1,e2,e3,e4,e5,rfl,rfl⟩;refine⟨hu,_,rfl,s2,n2,sp2,PB2,PR2,SL2,SR2,pa2,pc2,_,e1,g2.trans e2,e3,e4,(g5.trans e5).conv (gatM_step h3) (Nat.le_refl _),?_,rfl,rfl⟩;simp only at hw⊢;omega
 ·rintro u K L' R' _ ⟨hu,left,hl,hI⟩;have e:left=fun _=>false:=funext hl;subst e;exact⟨hu,hI⟩
theorem titems_s(IH:TAll z)(hm:J.map r vs)(hkk:vs.map (·.1)=ts.map (·.1))(h:∀(i:Nat) v t,vs[i]?=some v->ts[i]?=some t->Q0r J v.2 t.2)(hN:1+Q0p ts<=N)(hz:Q0p ts<=z)(hnN:n<=N/\N<2 ^ 30)(hs:Q2c J sb)(hnm:Nm J nb2 nmDe)(hmp:J mp=some (.cells (L1a nb2 Q6r).toArray 337 (0,0)))
  (hp:Pool 377 643 370 12 n sp PB PR)(hF:FO J st s SL SR)(hok:s.ok)(hpp:All2 (Nm J) bs p)(hD:p.length+1+Q0p ts<=D)(hc:s.cnt+2*Q0p ts*D<2 ^ 30):
  Ac 399 #[pt b,pt mp,.iface 633 (.map (some r))] J ((b,tc vb sb nb st al (.slice pa p.length pc) sp,.t 377)::(PB++(SL++VB))) (pathRw pa p.length pc bs::(PR++SR)) (Z9w b vb sb nb st al N sp s p bs (fun r=>r∈Q1u ts) (2*Q0p ts*D) VB):=by
 intro M I w W S;have HA:=fun y1 y2 y3 al2=>titer_s (y1:=y1) (y2:=y2) (y3:=y3) (al2:=al2) (b:=b) (VB:=VB) (vb:=vb) (nb:=nb) (al:=al) (pa:=pa) (pc:=pc) IH hm hkk h hN hz hnN hs hnm hmp hp hF hok hpp hD hc;have HA:=Hd HA;have HT:=Hd (hm.sorted.keys hkk);clear hc hD hpp hok hF hp hmp hnm hs hnN hz hN h hkk hm IH;simp only[tc]at S;go_enter func399,ntmps399;go_wp2_with (first|go_at_call 512;have hcall:=iterate0_s (HA.out y1 y2 y3);simp only[tL,tc,cons_append,nil_append]at hcall;refine Q0a S hcall ?_;clear hcall;rintro u2 K L' R2 W' hle ⟨rfl,s1,n2,sp2,PB2,PR2,SL2,SR2,pa2,pc2,c2,hn2,hsp2,hp2,hF2,hG2,hc2,rfl,rfl⟩ S2;have HP:=Hd (nd6 hn2 hsp2 hp2 hF2 hG2 (And.intro hc2 hle));clear S hn2 hsp2 hp2 hF2 hG2 hc2;have S:=S2;clear S2;simp only[tL,tc,cons_append,nil_append,append_nil,append_assoc]at S|refine wk ?_|refine Ws ?_;clear S;intro W S|refine wA ?_;clear S;intro y3 W S|refine wB ?_;clear S;(first|(fail_if_success revert y1);intro y1 W S|intro y2 W S))
 refine bT ?_;exact ap HP.out.2.2.2.2.2.2 ⟨rfl,s1,n2,sp2,PB2,PR2,SL2,SR2,pa2,pc2,HP.out.1,HP.out.2.1,HP.out.2.2.1,HP.out.2.2.2.1,HP.out.2.2.2.2.1.conv (gatM_all HT.out) (by have:=HP.out.2.2.2.2.2.1;omega),rfl,rfl⟩ (show St _ _ _ _ _ ((b,L0v vb sb nb st pa2 p.length pc2 sp2 al,.t 377)::(PB2++(SL2++VB))) (pathRw pa2 p.length pc2 bs::(PR2++SR2))from keep S)
theorem gather_s{k np:Nat}{L:List Blk}{R:List Rw}{a:Value}(hk:AK a k)(hs:Q2c J sb)(hn:Nm J nb nmDe)(hv:Q2n J ((b,tc vb sb nb st al (.slice pa np pc) sp,.t 377)::L) vb a)
  (h:∀sc l m,Q3a J sc l m true->Ac (Q1y k 395 393 394) #[pt b,.pointer (some (ad (Q1y k sc l m) 0))] J ((b,tc vb sb nb st al (.slice pa np pc) sp,.t 377)::L) R (Z9w b vb sb nb st al N sp s p bs A c VB)):
  Ac 185 #[pt b] J ((b,tc vb sb nb st al (.slice pa np pc) sp,.t 377)::L) R (Z9w b vb sb nb st al N sp s p bs A c VB):=by
 intro M I w W S;have HA:=Hd (X1f (ded:=true) hk hs hn hv h);clear hk hs hn hv h;simp only[tc]at S HA;go_enter func185,ntmps185;go_wp2_with fail
 refine Rg S [(b,L0v vb sb nb st pa np pc sp al,.t 377)] [] [14] [0,1,2,3,4,5,6,7,8,9,10,11,12,13] 2 fun W S=>?_;refine tk1 ?_;refine Sh [15] 0 14 fun KK hKK=>?_;go_simp;refine Q0a S HA.out ?_;rintro r K L' R2 W' hle ⟨rfl,s1,n2,sp2,PB2,PR2,SL2,SR2,pa2,pc2,hn2,hsp2,hp2,hF2,hG2,rfl,rfl⟩ S2;have HP:=Hd (nd6 hn2 hsp2 hp2 hF2 hG2 hle);clear S hn2 hsp2 hp2 hF2 hG2;have S:=S2;clear S2;replace S:=sa S;simp only[tc]at S;refine hKK.out _ _ ?_;clear hKK KK;refine tkf ?_;refine En ?_;go_wp2_with fail
 go_ret;exact ap HP.out.2.2.2.2.2 ⟨rfl,s1,n2,sp2,PB2,PR2,SL2,SR2,pa2,pc2,HP.out.1,HP.out.2.1,HP.out.2.2.1,HP.out.2.2.2.1,HP.out.2.2.2.2.1,rfl,rfl⟩ S.out
theorem tall:∀z,TAll z:=by
 intro z;induction z with
 |zero=>
  intro J a t ht hz;have:=Q1l t;omega
 |succ z IH=>
  intro J a t ht hz N D b vb sb nb st al n sp PB SL VB PR SR s p bs pa pc hN hnN hsch hnm hv hp hF hok hpp hD hc;refine gather_s ht.ak hsch hnm (hv.sub fun x hx=>List.mem_cons_of_mem _ (List.mem_append_right _ (List.mem_append_right _ hx))) fun sc l m hat=>?_;obtain⟨h1,⟨n1,h2,h3⟩,⟨n2,h4,h5⟩⟩:=hat;have hdl:=X3s hc;have hd2:=dle2 D t;have hb:s.cnt+p.length<2 ^ 30:=by omega
  cases ht with
  |null=>exact(tnull_s (D:=D) (rel:=.nilIface) hF hok hp hnN.1 hv h5).mono fun _ _ _ _ _ h=>Q9x h (fun r=>⟨False.elim,by rintro(h|⟨_,h,_⟩)<;>simp[Q0f,Tr.kind]at h⟩) (Nat.zero_le _)
  |bool|int|flt|str=>exact(tscalar_s (D:=D) hF hok hpp hb om hp hnN.1).mono fun _ _ _ _ _ h=>Q9x h (fun r=>⟨fun h=>.inr ⟨h,by simp[Tr.kind]⟩,by rintro(h|⟨h,_⟩)<;>first|exact h|simp[Q0f]at h⟩) (by simp only[Tr.size]at hdl⊢;omega)
  |list lb o c vs ts hl hn2 hc2 h=>exact(tlist_s (D:=D) hF hok hpp hb om hp hnN.1 hv h3).mono fun _ _ _ _ _ h=>Q9x h (fun r=>⟨fun h=>.inr ⟨h,by simp[Tr.kind]⟩,by rintro(h|⟨h,_⟩)<;>first|exact h|simp[Q0f]at h⟩) om
  |map r vs ts hm hkk h=>
   simp only[Tr.size]at hN hz hD hc;have e:2*(1+Q0p ts)*D=2*Q0p ts*D+2*D:=by rw[Nat.mul_add,Nat.add_mul];omega
   exact(tmap_s (p:=p) (s:=s) (n:=n) (D:=D) (N:=N) hv h5 (titems_s (D:=D) IH hm hkk h om om hnN hsch h4 h5 hp hF hok hpp om om)).mono fun _ _ _ _ _ h=>Q9x h (fun r=>⟨fun h=>.inl h,by rintro(h|⟨_,_,h⟩)<;>first|exact h|simp[Tr.kind]at h⟩) (by simp only[Tr.size];omega)
end
section
open Go.Maps
theorem Q9q:∀m n:List PE,(Q3o m n).length<=m.length
 |[],_=>by unfold Q3o;exact Nat.le_refl _
 |a::m,[]=>by unfold Q3o;exact Nat.zero_le _
 |a::m,b::n=>by
  unfold Q3o;have h1:=Q9q m (b::n);have h2:=Q9q (a::m) n;have h3:=Q9q m n;split
  ·simp only[length_cons];omega
  ·split<;>simp only[length_cons]at*<;>omega
 termination_by m n=>m.length+n.length
theorem Z2f:∀m n:List PE,(Q5l m n).length<=m.length
 |[],_=>by unfold Q5l;exact Nat.le_refl _
 |a::m,[]=>by unfold Q5l;exact Nat.le_refl _
 |a::m,b::n=>by
  unfold Q5l;have h1:=Z2f m (b::n);have h2:=Z2f (a::m) n;have h3:=Z2f m n;split
  ·simp only[length_cons];omega
  ·split<;>simp only[length_cons]at*<;>omega
 termination_by m n=>m.length+n.length
theorem Z0b:∀m n:List PE,(Q3i m n).length<=m.length+n.length
 |[],_=>by unfold Q3i;simp
 |a::m,[]=>by unfold Q3i;exact Nat.le_refl _
 |a::m,b::n=>by
  unfold Q3i;have h1:=Z0b m (b::n);have h2:=Z0b (a::m) n;have h3:=Z0b m n;split
  ·simp only[length_cons]at*;omega
  ·split<;>simp only[length_cons]at*<;>omega
 termination_by m n=>m.length+n.length
mutual
theorem Z2h:∀s t:FS,(s.inter t).cnt<=s.cnt
 |.mk m c,.mk n d=>by
  have:=Q9q m n;have:=Q9u c d;unfold FS.inter FS.cnt;omega
 termination_by s t=>SizeOf.sizeOf s+SizeOf.sizeOf t
theorem Q9u:∀c d:List (PE×FS),FS.cnt.cntC (Q2j c d)<=FS.cnt.cntC c
 |[],_=>by unfold Q2j;exact Nat.le_refl _
 |_::_,[]=>by unfold Q2j;exact Nat.zero_le _
 |(a,s)::c,(b,t)::d=>by
  unfold Q2j;have h1:=Q9u c ((b,t)::d);have h2:=Q9u ((a,s)::c) d;have h3:=Q9u c d;have h4:=Z2h s t;split
  ·simp only[FS.cnt.cntC];omega
  ·split
   ·exact h2
   ·split<;>simp only[FS.cnt.cntC]<;>omega
 termination_by c d=>SizeOf.sizeOf c+SizeOf.sizeOf d
end
mutual
theorem Z4p:∀s t:FS,(s.diff t).cnt<=s.cnt
 |.mk m c,.mk n d=>by
  have:=Z2f m n;have:=Z1n c d;unfold FS.diff FS.cnt;omega
 termination_by s t=>SizeOf.sizeOf s+SizeOf.sizeOf t
theorem Z1n:∀c d:List (PE×FS),FS.cnt.cntC (Q4e c d)<=FS.cnt.cntC c
 |[],_=>by unfold Q4e;exact Nat.le_refl _
 |_::_,[]=>by unfold Q4e;exact Nat.le_refl _
 |(a,s)::c,(b,t)::d=>by
  unfold Q4e;have h1:=Z1n c ((b,t)::d);have h2:=Z1n ((a,s)::c) d;have h3:=Z1n c d;have h4:=Z4p s t;split
  ·simp only[FS.cnt.cntC];omega
  ·split
   ·exact h2
   ·split<;>simp only[FS.cnt.cntC]<;>omega
 termination_by c d=>SizeOf.sizeOf c+SizeOf.sizeOf d
end
mutual
theorem X3e:∀s t:FS,(s.union t).cnt<=s.cnt+t.cnt
 |.mk m c,.mk n d=>by
  have:=Z0b m n;have:=Q9v c d;unfold FS.union FS.cnt;omega
 termination_by s t=>SizeOf.sizeOf s+SizeOf.sizeOf t
theorem Q9v:∀c d:List (PE×FS),FS.cnt.cntC (Q2k c d)<=FS.cnt.cntC c+FS.cnt.cntC d
 |[],_=>by unfold Q2k;simp only[FS.cnt.cntC];omega
 |_::_,[]=>by unfold Q2k;exact Nat.le_add_right _ _
 |(a,s)::c,(b,t)::d=>by
  unfold Q2k;have h1:=Q9v c ((b,t)::d);have h2:=Q9v ((a,s)::c) d;have h3:=Q9v c d;have h4:=X3e s t;split
  ·simp only[FS.cnt.cntC]at*;omega
  ·split<;>simp only[FS.cnt.cntC]at*<;>omega
 termination_by c d=>SizeOf.sizeOf c+SizeOf.sizeOf d
end
end
section
theorem twalker_s:Ac 183 #[Q9e vb nb sb] J [] [] fun u K L' R'=>K=J/\R'=[]/\∃b al st,u=pt b/\L'=[(b,tc vb sb nb st al (sn) none,.t 377),(st,[sn,sn],.t 316)]:=by
 unfold Q9e;intro M I w W S;go_enter func183,ntmps183;go_wp2_with (first|go_at_call 113;refine(Q0g (Q7s _) S.out.inw).mono ?_;rintro e W' ⟨rfl,st⟩;(obtain⟨al,hal⟩:∃al,al=W.heap.size:=⟨_,rfl⟩);rw[<-hal];clear hal;replace S:=Hd (S.out.call st);clear st|refine wk ?_|refine Ws ?_;clear S;intro W S|refine wn ?_;clear S;(first|(fail_if_success revert y);intro y W S|(fail_if_success revert b);intro b W S|intro st W S))
 go_ret;exact ap gR ⟨rfl,rfl,b,al,st,rfl,rfl⟩ (show St _ _ _ _ _ [(b,[.iface 339 (pt vb),pt sb,pt nb,pn,pn,pn,pn,.bool false,pt st,sn,pn,.iface 340 (pt al)],.t 377),(st,[sn,sn],.t 316)] []from keep S)
theorem X4e{M:Nat->Prop}{I:Gh}{w W:World}{b st al:Nat}{pv:Value}{sp:OA}{L:List Blk}{R:List Rw}{u:FrameMode}(S:Hid (St M I J w W ((b,tc vb sb nb st al pv sp,.t 377)::L) R)):
  CallsD prog 184 #[pt b] u W fun e u' W'=>u'=u/\e=.returned (.tuple #[])/\∃cs,Hid (St M I J w W' ((b,cs,.t 377)::L) R):=by
 simp only[tc]at S;go_enter_d func184,ntmps184;go_wp2_with (first|refine wk ?_|refine Ws ?_;clear S;intro W S)
 go_end0;exact⟨rfl,_,S⟩
theorem tofs_s{a:Value}{t:Tr}{VB:List Blk}(ht:Q0r J a t)(hsz:2*t.size*t.size<2 ^ 30)(hs:Q2c J sb)(hn:Nm J nb nmDe)(hv:Q2n J VB vb a):
  Ac 127 #[Q9e vb nb sb] J VB [] fun u K L' R'=>R'=[]/\L'=VB/\∃st s,u=.tuple #[pt st,.nilIface]/\FSI K st s/\Gath .nil [] (Gat t) (2*t.size*t.size) s:=by
 intro M I w W S;have HV:=Hd (nd5 ht hsz hs hn hv);clear ht hsz hs hn hv;unfold Q9e;go_enter_defers func127,ntmps127;go_wp2_with (first|refine wk ?_|refine wn ?_;clear S;intro y W S)
 refine Q0a S (twalker_s (vb:=vb) (nb:=nb) (sb:=sb)) ?_;rintro r K L' R' W' hle ⟨hKJ,rfl,b,al,st,rfl,rfl⟩ S2;have hJK:=hKJ.symm;subst hJK;clear S;have S:=S2;clear S2;simp only[tc,cons_append,nil_append,append_nil,append_assoc]at S;replace S:=Hd (((S.out.nilrow 423 5).nilrow 358 4).nilrow 358 4);go_wp2_with fail
 have hcall:=tall t.size J a t HV.out.1 (Nat.le_refl _) t.size t.size b vb sb nb st al 0 none [] [setBlk st (sn) (sn)] VB [] [memRw (sn) [],kidRw (sn) []] .nil [] [] none 0 (Nat.le_refl _) ⟨Nat.zero_le _,by have:=X3s (c:=0) (a:=2 ^ 30) (u:=t) (D:=t.size) (by have:=HV.out.2.1;omega);omega⟩ HV.out.2.2.1 HV.out.2.2.2.1 HV.out.2.2.2.2 .nil (FO.new J st) FS.ok_nil .nil b0f (by have:=HV.out.2.1;simp only[FS.nil,FS.cnt,FS.cnt.cntC,length_nil];omega);simp only[tc,setBlk,memRw,kidRw,pathRw,List.flatMap_nil,length_nil,nil_append,cons_append]at hcall;refine Q0a S hcall ?_;clear hcall;rintro r K2 L' R2 W' hle2 ⟨rfl,s1,n2,sp2,PB2,PR2,SL2,SR2,pa2,pc2,hn2,hsp2,hp2,hF2,hG2,rfl,rfl⟩ S2;have HP:=Hd (nd3 hF2 hG2 hle2);clear S hn2 hsp2 hp2 hF2 hG2;have S:=S2;clear S2;simp only[tc,cons_append,nil_append,append_nil,append_assoc,pathRw]at S;go_wp2_with (refine wk ?_)
 refine leaves_cons (f:=184) (args:=#[pt b]) b0f (by simp[go_sem,Go.MuLone.run_callFunc_enter func184 kr rfl]) ?_;refine(X4e (b:=b) (vb:=vb) (nb:=nb) (sb:=sb) (st:=st) (al:=al) (sp:=sp2) S).mono ?_;rintro e u' w'' ⟨rfl,rfl,cs,S⟩;obtain⟨K3,hle3,hfs,S3⟩:=FO.freeze HP.out.1 (show St _ _ _ _ _ (SL2++VB) (SR2++[])from keep S);exact⟨_,results_tmp2 rfl _ _ _,ap (gT HP.out.2.2 hle3) ⟨rfl,rfl,st,s1,rfl,hfs,HP.out.2.1.conv (fun _=>Iff.rfl) (Nat.sub_le _ _)⟩ S3⟩
end
end Go.Proofs.YtbmklgemmjgjfaaGreat
