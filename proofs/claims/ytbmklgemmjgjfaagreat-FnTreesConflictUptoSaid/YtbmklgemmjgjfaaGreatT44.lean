/- Part 44: Tsc, Tyo, Tsd, Two, Ful. -/
import Derived.Test.YtbmklgemmjgjfaaGreatT42
import Derived.Test.YtbmklgemmjgjfaaGreatT43
namespace Go.Proofs.YtbmklgemmjgjfaaGreat
open List (all_cons all_nil foldl_cons mem_cons)
open Go.RowKit Go.Maps Tryz
set_option linter.unusedVariables false
set_option linter.unusedSimpArgs false
set_option maxRecDepth 100000
set_option maxHeartbeats 16000000
variable{J:Gh}{ded:Bool}
section
def Z4j(ded:Bool):BA:=if ded then Q6r else Q1p
theorem X4f{nm:BA}(hx:nm.size<=maxLen):Ac 55 #[.agg (L2n nm).toArray] J [] []<|N0 fun u K=>∃nb,u=Q0v nb/\Nm K nb nm:=by
 intro M I w W S;go_enter func55,ntmps55;go_wp2_with (first|refine wk ?_|refine wB ?_;clear S;intro y W S|refine wA ?_;clear S;(first|(fail_if_success revert z1);intro z1 W S|(first|(fail_if_success revert z2);intro z2 W S|intro z W S))|refine Ws ?_;clear S;intro W S)
 refine bT ?_;replace S:=Lib.front S [(z,[.string nm],.t 9)] [];exact e1h
theorem toLt_s:Ac 164 #[.agg (L1s nmAt Q1p).toArray] J [] []<|N0 fun u K=>∃nb,u=.agg (L1n nb Q1p).toArray/\Nm K nb nmAt:=by
 intro M I w W S;go_enter func164,ntmps164;go_wp2_with (first|refine wB ?_;clear S;intro y W S|refine wA ?_;clear S;intro z W S)
 refine Rg S [(y,L1s nmAt Q1p,.t 167)] [] [] [0,1,3,4,5,6] 4 fun W S=>?_;refine Zw [] 3 2 ?_;intro KK hKK;go_simp;have hcall:=X4f (J:=J) (nm:=nmAt) b0t;refine Q0a S hcall ?_;clear hcall S;rintro r5 K5 L5 R5 W' hle5 ⟨rfl,rfl,nb,rfl,hnb⟩ S;have HN5:=Hd (And.intro hnb hle5);clear hnb;replace S:=sa S;unfold Q0v;refine Yw [8] 1 7 ?_;intro KK hKK;refine Q4b rfl rfl rfl underlying32 in9 ?_;refine Tw [] 0 9 ?_;intro KK hKK;refine Q0y (sub:=(L1n nb Q1p)) S rfl rfl rfl rf ?_;clear S;intro W S;refine Ey ?_;go_wp2_with fail
 refine bT ?_;exact ap (L:=[]) HN5.out.2 ⟨rfl,rfl,nb,rfl,HN5.out.1⟩ kp
theorem z1m{P:Prop}(h:P:=by
 rcases h6 with⟨h,e⟩|⟨h,b,e,e2⟩
 ·exact .inl ⟨by simpa using h,e⟩
 ·exact .inr ⟨by simpa using h,b,by simpa using e,e2⟩):P:=h
theorem toMt_s:Ac 165 #[.agg #[sn,.bool true,.string (nmTy ded),.string ⟨#[]⟩,sn,sn,.string ⟨#[]⟩,.string (Z4j ded)]] J [] []<|N0 fun u K=>∃nb,u=.agg #[sn,sn,pt nb,pn,pn,pn,pn,.bool false,.string (Z4j ded)]/\Nm K nb (nmTy ded):=by
 intro M I w W S;go_enter func165,ntmps165;go_wp2_with (first|refine wB ?_;clear S;intro y W S|refine wA ?_;clear S;intro z W S)
 refine Rg S [(y,[sn,.bool true,.string (nmTy ded),.string ⟨#[]⟩,sn,sn,.string ⟨#[]⟩,.string (Z4j ded)],.t 165)] [] [] [0,1,3,4] 4 fun W S=>?_;refine tk1 ?_;refine Z9y (md:=.any) [8,11,3] [(2,[]),(6,[]),(5,[2])] (fun f x W=>∃(K:Gh) (L:List Blk),Hid (St M I K w W (L++[(z,L2b,.t 337),(y,[sn,.bool true,.string (nmTy ded),.string ⟨#[]⟩,sn,sn,.string ⟨#[]⟩,.string (Z4j ded)],.t 165)]) [])/\J.le K/\(f 2=true->∃nb,x 8=Q0v nb/\Nm K nb (nmTy ded))/\(f 5=true->∃nb,x 11=.agg #[sn,sn,pt nb,pn,pn,pn,pn,.bool false,.string (Z4j ded)]/\Nm K nb (nmTy ded))/\(f 6=false/\L=[]\/f 6=true/\∃b,x 3=pt b/\L=[(b,L2b,.t 337)])) 1 3 #[true,true,true,true,true,true,true,false] kr ?_ ?_ ?_ ?_
 ·intro f x hf;have e2:f 2=false:=(hf 2).trans kr;have e5:f 5=false:=(hf 5).trans kr;have e6:f 6=false:=(hf 6).trans kr;exact⟨J,[],by simpa using S,gR,fun h=>(by rw[e2]at h;cases h),fun h=>(by rw[e5]at h;cases h),.inl ⟨e6,rfl⟩⟩
 ·rintro f x W ⟨K,L,S,hle,_⟩;exact vw S hle
 ·clear S;intro d hd f x W hf hfn hG;obtain⟨K,L,S,hle,h2,h5,h6⟩:=hG;simp only[mem_cons,List.not_mem_nil,or_false]at hd;rcases hd with rfl|rfl|rfl
  ·refine⟨_,8,rfl,rfl,rfl,rfl,fun KK hKK=>?_⟩;refine yq ?_;go_simp;refine Q0a S (X4f (J:=K) (nm:=nmTy ded) (by cases ded<;>decide)) ?_;rintro r5 K5 L5 R5 W' hle5 ⟨rfl,rfl,nb,rfl,hnb⟩ S;replace S:=sa S;refine hKK (Q0v nb) _ _ b0k ⟨K5,L,S,gT hle hle5,fun _=>⟨nb,by simp,hnb⟩,fun h=>?_,?_⟩
   ·obtain⟨nb',e,hn⟩:=h5 b0b;exact⟨nb',by simpa using e,hn.mono hle5⟩
   ·exact z1m
  ·refine⟨_,3,rfl,rfl,rfl,rfl,fun KK hKK=>?_⟩;refine yq ?_;refine Q3c S rfl ?_;clear S;intro b W S;have eL:L=[]:=h6.elim (fun h=>h.2) (fun h=>absurd h.1 (by simp[hfn]));subst eL;refine hKK (pt b) _ _ b1t ⟨K,[(b,L2b,.t 337)],S,hle,fun h=>?_,fun h=>?_,.inr ⟨by simp,b,by simp,rfl⟩⟩
   ·obtain⟨nb',e,hn⟩:=h2 b0b;exact⟨nb',by simpa using e,hn⟩
   ·obtain⟨nb',e,hn⟩:=h5 b0b;exact⟨nb',by simpa using e,hn⟩
  ·refine⟨_,11,rfl,rfl,rfl,rfl,fun KK hKK=>?_⟩;obtain⟨nb,e,hn⟩:=h2 b1f;refine yq ?_;rw[e];unfold Q0v;refine Q2h (v:=.agg #[sn,sn,pt nb,pn,pn,pn,pn,.bool false,.string (Z4j ded)]) (by go_simp) ?_;refine hKK _ _ _ (by simp only[Q5o,foldl_cons,List.foldl_nil,Act.put,List.setIfInBounds_toArray,List.set_cons_zero,List.set_cons_succ];rw[e];unfold Q0v;rfl) ⟨K,L,S,hle,fun h=>⟨nb,by simpa using e,hn⟩,fun _=>⟨nb,by simp,hn⟩,?_⟩;exact z1m
 ·clear S;intro f x W hf hG;obtain⟨K,L,S,hle,h2,h5,h6⟩:=hG;simp only[all_cons,all_nil,Bool.and_true,Bool.and_eq_true]at hf;obtain⟨nb,e8,_⟩:=h2 hf.1;obtain⟨nb2,e11,hn⟩:=h5 hf.2.2;obtain⟨b,e3,rfl⟩:∃b,x 3=pt b/\L=[(b,L2b,.t 337)]:=h6.elim (fun h=>absurd h.1 (by rw[hf.2.1];decide)) (fun h=>h.2);refine yq ?_;rw[e8,e11,e3];have HN:=Hd (And.intro hn hle);clear h2 h5 h6 hf hn e8 e11 e3;replace S:=sa S;refine Wr [] 0 7 fun KK hKK=>?_;refine Q0y (sub:=[sn,sn,pt nb2,pn,pn,pn,pn,.bool false,.string (Z4j ded)]) S rfl rfl rfl rf ?_;clear S;intro W S;refine hKK.out _ _ (vw S hle) ?_;clear hKK KK;refine yf ?_;refine En ?_;go_wp2_with (refine wk ?_)
  refine wp_loop_rounds 1 ?_;rw[rounds_succ];go_wp2_with (first|refine wk ?_|refine Ws ?_;clear S;intro W S)
  refine bT ?_;exact ap (L:=[]) HN.out.2 ⟨rfl,rfl,nb2,rfl,HN.out.1⟩ kp
theorem un_ne:nmUn.toList.isEmpty=false:=by rw[ByteArray.toList_eq];rfl
theorem X8t{lb mb c1 c2:Nat}(hl:∀(i:Nat) u,((L1s nmAt Q1p):List Value)[i]?=some u->J.cell (ad lb (0+i)) u)(hm:∀(i:Nat) u,([sn,.bool true,.string (nmTy ded),.string ⟨#[]⟩,sn,sn,.string ⟨#[]⟩,.string (Z4j ded)]:List Value)[i]?=some u->J.cell (ad mb (0+i)) u):
  Ac 109 #[.agg #[.string nmUn,.slice (some (ad lb 0)) 1 c1,.slice (some (ad mb 0)) 1 c2]] J [] []<|N0 fun u K=>∃s l m,u=Q1j s l m/\Q3a K s l m ded:=by
 intro M I w W S;have HT:=Hd (And.intro hl hm);clear hl hm;have hne:=un_ne;go_enter func109,ntmps109;go_wp2_with (first|refine wk ?_|refine wB ?_;clear S;intro y W S|refine wA ?_;clear S;(first|(fail_if_success revert z1);intro z1 W S|(first|(fail_if_success revert z2);intro z2 W S|intro sp W S))|refine X9l (sub:=(L1s nmAt Q1p)) rf rfl rfl rfl HT.out.1 S.out.inw ?_|refine Ws ?_;clear S;intro W S)
 refine Q0a S (toLt_s (J:=J)) ?_;clear S;rintro r5 K5 L5 R5 W' hle5 ⟨rfl,rfl,nb,rfl,hnb⟩ S;have HN:=Hd (And.intro hnb hle5);clear hnb hle5;replace S:=sa S;have hM5:=Hd (fun(i:Nat) u h=>(HT.out.2 i u h).mono HN.out.2);go_wp2_with (first|refine wk ?_|refine wn ?_;clear S;intro lp W S|refine X9l (sub:=[sn,.bool true,.string (nmTy ded),.string ⟨#[]⟩,sn,sn,.string ⟨#[]⟩,.string (Z4j ded)]) rf rfl rfl rfl hM5.out S.out.inw ?_|refine Ws ?_;clear S;intro W S)
 refine Q0a S (toMt_s (J:=K5) (ded:=ded)) ?_;clear S;rintro r6 K6 L6 R6 W' hle6 ⟨rfl,rfl,nb2,rfl,hnb2⟩ S;have HN2:=Hd (And.intro hnb2 hle6);clear hnb2 hle6;replace S:=sa S;go_wp2_with (first|refine wk ?_|refine wn ?_;clear S;intro mp W S|refine Ws ?_;clear S;intro W S)
 refine bT ?_;replace S:=Lib.front S [(sp,[.string nmUn],.t 330),(lp,L1n nb Q1p,.t 332),(mp,[sn,sn,pt nb2,pn,pn,pn,pn,.bool false,.string (Z4j ded)],.t 337)] [];obtain⟨K1,hle1,hk1,S1⟩:=S.out.freezeL;have q1:K1 sp=some (.cells #[.string nmUn] 330 (0,0)):=hk1 (sp,_,.t 330) b0f;have q2:K1 lp=some (.cells (L1n nb Q1p).toArray 332 (0,0)):=hk1 (lp,_,.t 332) b0f;have q3:K1 mp=some (.cells #[sn,sn,pt nb2,pn,pn,pn,pn,.bool false,.string (Z4j ded)] 337 (0,0)):=hk1 (mp,_,.t 337) b0f;exact ap (L:=[]) (gT HN.out.2 (gT HN2.out.2 hle1)) ⟨rfl,rfl,sp,lp,mp,rfl,⟨_,_,_,q1,rfl,rfl⟩,⟨nb,HN.out.1.mono (gT HN2.out.2 hle1),q2⟩,⟨nb2,HN2.out.1.mono hle1,q3⟩⟩ (show St _ _ _ _ _ _ _ from keep (Hd S1))
end
section
variable{sb nb:Nat}
theorem Z4z{a:Value}{t:Tr}(ht:Q0r J a t)(hsz:t.size<2 ^ 30)(hs:Q2c J sb)(hn:Nm J nb (nmTy ded)):
  Ac 93 #[pt sb,Q0v nb,a,.bool false] J [] []<|N0 fun u K=>∃tb,u=.tuple #[pt tb,.bool true]/\TvIs K tb sb nb t:=by
 intro M I w W S;have HT:=Hd (nd4 ht hsz hs hn);clear ht hsz hs hn;unfold Q0v;go_enter func93,ntmps93;go_wp2_with (refine wn ?_;clear S;intro y W S)
 refine Rg S [(y,L1b nb,.t 114)] [] [] [0,2,3,4] 7 fun W S=>?_;refine Zw [] 6 1 ?_;intro KK hKK;go_simp;refine Q0a S (X7y HT.out.1.ak) ?_;rintro r5 K5 L5 R5 W' hle5 ⟨hKJ,rfl,vb,rfl,rfl⟩ S2;have hJK:=hKJ.symm;subst hJK;clear S;have S:=S2;clear S2;replace S:=sa S;unfold Q3q;refine Yw [6,7,8,9,10] 0 5 ?_;intro KK hKK;go_simp;have hcall:=asTyped_s (J:=J) (vb:=vb) (nb:=nb) (sb:=sb) (ded:=ded) (VB:=[(vb,[a],.t 430)]) HT.out.1 HT.out.2.1 HT.out.2.2.1 HT.out.2.2.2 (.inr ⟨430,List.mem_cons_self ..⟩);simp only[Q3q,Q0v,Q1n]at hcall;refine Q0a S hcall ?_;clear hcall;rintro r6 K6 L6 R6 W' hle6 ⟨hKJ,rfl,tb,rfl,rfl⟩ S2;have hJK:=hKJ.symm;subst hJK;clear S;have S:=S2;clear S2;replace S:=sa S;refine Et ?_;go_wp2_with fail
 refine Rg S [] [] [] [0,1,2,3,4] 0 fun W S=>?_;refine tk1 ?_;refine En ?_;go_wp2_with fail
 replace S:=Lib.front S [(tb,L1c vb nb sb,.t 367)] [];replace S:=sa S;obtain⟨K1,hle1,hk1,S1⟩:=S.out.freeze;clear S;have S:=Lib.front (Hd S1) [(vb,[a],.t 430)] [];replace S:=sa S;clear S1;obtain⟨K2,hle2,hk2,S1⟩:=S.out.freeze;refine bT ?_;exact ap (L:=[]) (gT hle1 hle2) ⟨rfl,rfl,tb,rfl,vb,a,hle2 _ _ hk1,⟨_,_,_,hk2,rfl,rfl⟩,HT.out.1.mono (gT hle1 hle2)⟩ (show St _ _ _ _ _ _ _ from keep (Hd S1))
theorem typedOf_s{v:V6}{x:IV}(hv:VIs J v x)(hb:x.bulk<2 ^ 30)(hsz:x.tr.size<2 ^ 30)(hs:Q2c J sb)(hn:Nm J nb (nmTy ded)):
  Ac 48 #[pt sb,Q0v nb,v.agg,.bool false] J [] []<|N0 fun u K=>∃tb,u=.tuple #[pt tb,.bool true]/\TvIs K tb sb nb x.tr:=by
 intro M I w W S;have HT:=Hd (nd5 hv hb hsz hs hn);clear hv hb hsz hs hn;unfold Q0v V6.agg;go_enter func48,ntmps48;go_wp2_with (refine wn ?_;clear S;(first|(fail_if_success revert y);intro y W S|intro z W S))
 refine Rg S [(z,L0a v,.t 35),(y,L1b nb,.t 114)] [] [] [0,1,2,4] 6 fun W S=>?_;refine Zw [] 5 3 ?_;intro KK hKK;go_simp;have hcall:=plain_s HT.out.1 HT.out.2.1;simp only[V6.agg]at hcall;refine Q0a S hcall ?_;clear hcall;rintro r5 K5 L5 R5 W' hle5 ⟨rfl,rfl,ha⟩ S2;have HA:=Hd (And.intro ha hle5);clear S ha;have S:=S2;clear S2;replace S:=sa S;refine Yw [6,7,8,9] 0 5 ?_;intro KK hKK;go_simp;have hcall:=Z4z (J:=K5) (nb:=nb) (sb:=sb) (ded:=ded) HA.out.1 HT.out.2.2.1 (HT.out.2.2.2.1.mono hle5) (HT.out.2.2.2.2.mono hle5);simp only[Q0v]at hcall;refine Q0a S hcall ?_;clear hcall;rintro r6 K6 L6 R6 W' hle6 ⟨rfl,rfl,tb,rfl,htv⟩ S2;have hle56:=gT hle5 hle6;have HQ:=Hd (And.intro hle56 htv);clear S htv;have S:=S2;clear S2;replace S:=sa S;refine Et ?_;go_wp2_with fail
 refine bT ?_;exact ap (L:=[]) HQ.out.1 ⟨rfl,rfl,tb,rfl,HQ.out.2⟩ kp
end
section
variable{u:Value}{i tb ct:Nat}{p q:List Value}
theorem list4(h:p[i]?=some u):([]++p++q)[i]?=some u:=by
 rw[List.nil_append,List.getElem?_append_left (List.getElem?_eq_some_iff.1 h).1];exact h
theorem list8(hp:p.length=4)(h:q[i]?=some u):([]++p++q)[4+i]?=some u:=by
 rw[List.nil_append,List.getElem?_append_right om,hp];simpa using h
def ISch(J:Gh)(tb:Nat):Prop:=∃(lb m1 m2 c1 c2 c3:Nat),(∀(i:Nat) u,([.string nmAt,.string nmUn,.slice (some (ad lb 0)) 1 c1,.slice (some (ad m1 0)) 1 c2]:List Value)[i]?=some u->J.cell (ad tb (0+i)) u)/\(∀(i:Nat) u,([.string nmDe,.string nmUn,.slice (some (ad lb 0)) 1 c1,.slice (some (ad m2 0)) 1 c3]:List Value)[i]?=some u->J.cell (ad tb (4+i)) u)/\
 (∀(i:Nat) u,((L1s nmAt Q1p):List Value)[i]?=some u->J.cell (ad lb (0+i)) u)/\(∀(i:Nat) u,([sn,.bool true,.string (nmTy false),.string ⟨#[]⟩,sn,sn,.string ⟨#[]⟩,.string (Z4j false)]:List Value)[i]?=some u->J.cell (ad m1 (0+i)) u)/\(∀(i:Nat) u,([sn,.bool true,.string (nmTy true),.string ⟨#[]⟩,sn,sn,.string ⟨#[]⟩,.string (Z4j true)]:List Value)[i]?=some u->J.cell (ad m2 (0+i)) u)
theorem ISch.mono{K:Gh}(h:ISch J tb)(l:J.le K):ISch K tb:=by
 obtain⟨lb,m1,m2,c1,c2,c3,h1,h2,h3,h4,h5⟩:=h;exact⟨lb,m1,m2,c1,c2,c3,fun i u k=>(h1 i u k).mono l,fun i u k=>(h2 i u k).mono l,fun i u k=>(h3 i u k).mono l,fun i u k=>(h4 i u k).mono l,fun i u k=>(h5 i u k).mono l⟩
theorem toSch_s(hs:ISch J tb):Ac 54 #[.agg #[.slice (some (ad tb 0)) 2 ct]] J [] []<|N0 fun u K=>∃sb,u=pt sb/\Q2c K sb:=by
 intro M I w W S;obtain⟨lb,m1,m2,c1,c2,c3,h1,h2,h3,h4,h5⟩:=hs;have HT:=Hd (nd5 h1 h2 h3 h4 h5);clear h1 h2 h3 h4 h5;go_enter func54,ntmps54;replace S:=Hd (S.out.nilrow 239 4);go_wp2_with (first|refine wk ?_|refine wn ?_;clear S;(first|(fail_if_success revert y);intro y W S|intro o W S))
 refine wp_loop_rounds 3 ?_;rw[rounds_succ];go_wp2_with (first|refine wk ?_|refine wn ?_;clear S;intro q5 W S|refine X9l (sub:=(L2a nmAt nmUn lb c1 m1 c2)) rf rfl rfl rfl HT.out.1 S.out.inw ?_|refine Ws ?_;clear S;intro W S)
 refine Rg S [(q5,L2a nmAt nmUn lb c1 m1 c2,.t 169),(o,[sn],.t 236)] [] [15] [0,1,2,3,4,5,6,7,8] 7 fun W S=>?_;refine Zw [10] 5 9 ?_;intro KK hKK;go_simp;have hcall:=X8t (J:=J) (lb:=lb) (mb:=m1) (c1:=c1) (c2:=c2) (ded:=false) (fun i u h=>(HT.out.2.2.1 i u h).mono gR) (fun i u h=>(HT.out.2.2.2.1 i u h).mono gR);refine Q0a S hcall ?_;clear hcall S;rintro r5 K5 L5 R5 W' hle5 ⟨rfl,rfl,s5,l5,m5,rfl,hat⟩ S;have HA5:=Hd (And.intro hat hle5);clear hat;unfold Q1j;replace S:=sa S;refine Tw [] 4 11 ?_;intro KK hKK;refine Q1s (sub:=(L2o nmAt s5 l5 m5)) S rfl underlying234 rfl ?_;clear S;intro z W S;refine Yw [13,14] 1 12 ?_;intro KK hKK;refine Q1m S rfl rfl rfl underlying234 in239 rfl b0t ?_;clear S;intro A5 cc5 W S;refine Ht ?_;refine Cl 15 fun KK hKK=>?_;refine Q0j (v:=.slice A5 (0+1) cc5) S rfl rfl rfl rfl ?_;clear S;intro W S;refine hKK.out _ _ (NoPanic.normal ?_);clear hKK KK;go_wp2_with fail
 rw[rounds_succ];have h2:=Hd (fun(i:Nat) u h=>(HT.out.2.1 i u h).mono HA5.out.2);go_wp2_with (first|refine wk ?_|refine wn ?_;clear S;intro q6 W S|refine X9l (sub:=(L2a nmDe nmUn lb c1 m2 c3)) rf rfl rfl rfl h2.out S.out.inw ?_|refine Ws ?_;clear S;intro W S)
 refine Rg S [(q6,L2a nmDe nmUn lb c1 m2 c3,.t 169),(o,[.slice A5 (0+1) cc5],.t 236)] [] [15] [0,1,2,3,4,5,6,7,8] 7 fun W S=>?_;refine Zw [10] 5 9 ?_;intro KK hKK;go_simp;have hcall:=X8t (J:=K5) (lb:=lb) (mb:=m2) (c1:=c1) (c2:=c3) (ded:=true) (fun i u h=>(HT.out.2.2.1 i u h).mono HA5.out.2) (fun i u h=>(HT.out.2.2.2.2 i u h).mono HA5.out.2);refine Q0a S hcall ?_;clear hcall S;rintro r6 K6 L6 R6 W' hle6 ⟨rfl,rfl,s6,l6,m6,rfl,hat⟩ S;have HA6:=Hd (And.intro hat hle6);clear hat;unfold Q1j;replace S:=sa S;refine Tw [] 4 11 ?_;intro KK hKK;refine Q1s (sub:=(L2o nmDe s6 l6 m6)) S rfl underlying234 rfl ?_;clear S;intro z W S;refine Yw [13,14] 1 12 ?_;intro KK hKK;refine Q1m S rfl rfl rfl underlying234 in239 rfl b0t ?_;clear S;intro A6 cc6 W S;refine Ht ?_;refine Cl 15 fun KK hKK=>?_;refine Q0j (v:=.slice A6 ((0+1)+1) cc6) S rfl rfl rfl rfl ?_;clear S;intro W S;refine hKK.out _ _ (NoPanic.normal ?_);clear hKK KK;go_wp2_with fail
 rw[rounds_succ];go_wp2_with fail
 obtain⟨g,rfl⟩:=row_g S.out;obtain⟨K1,qa,qc,hle1,hv1,hn1,hm1,hf1,S3⟩:=S.out.rfreeze;simp only[Value.slice.injEq,true_and]at hv1;obtain⟨rfl,rfl⟩:=hv1;replace S:=Lib.front (Hd S3) [(o,[.slice (some (ad g 0)) (0+1+1) cc6],.t 236)] [];replace S:=sa S;obtain⟨K2,hle2,hk2,S4⟩:=S.out.freeze;have hle12:=gT hle1 hle2;obtain⟨b,o',e,hc⟩:∃b o',some (Addr.mk g 0 none)=some (ad b o')/\∀(j:Nat) v,([]++[Value.string nmAt,pt s5,pt l5,pt m5]++[Value.string nmDe,pt s6,pt l6,pt m6])[j]?=some v->K1.cell (ad b (o'+j)) v:=by
  rcases hf1 with⟨h,_⟩|h
  ·cases h
  ·exact h
 cases e;refine bT ?_;exact ap (L:=[]) (gT HA5.out.2 (gT HA6.out.2 hle12)) ⟨rfl,rfl,o,rfl,g,cc6,s5,l5,m5,s6,l6,m6,⟨_,_,_,hk2,rfl,rfl⟩,hn1,HA5.out.1.mono (gT HA6.out.2 hle12),HA6.out.1.mono hle12,fun i u h=>(hc i u (list4 h)).mono hle2,fun i u h=>by have:=hc (4+i) u (list8 rfl h);rw[Nat.zero_add]at this;exact this.mono hle2⟩ (show St _ _ _ _ _ _ _ from keep (Hd S4))
theorem toVer_s{x0:V6}{ma:OA}{mn mc:Nat}(hs:ISch J tb):Ac 46 #[.agg (L0d tb ct nmDe x0 ma mn mc).toArray] J [] []<|N0 fun u K=>∃sb nb rs rm,u=Q2z sb nb rs rm/\Z5n K sb nb rs rm:=by
 intro M I w W S;have HS:=Hd hs;clear hs;go_enter func46,ntmps46;go_wp2_with (first|refine wB ?_;clear S;intro y W S|refine wA ?_;clear S;intro z W S)
 refine Rg S [(y,L0d tb ct nmDe x0 ma mn mc,.t 41)] [] [] [0,1,2,3,5,6] 7 fun W S=>?_;refine tk1 ?_;refine Z9y (md:=.any) [12,15,16,17,18,3] [(4,[]),(7,[]),(8,[]),(9,[]),(11,[]),(10,[4,7,8,9])] (fun f x W=>∃(K:Gh) (L:List Blk),Hid (St M I K w W (L++[(z,L1z,.t 118),(y,L0d tb ct nmDe x0 ma mn mc,.t 41)]) [])/\J.le K/\(f 4=true->∃sb,x 12=pt sb/\Q2c K sb)/\(f 7=true->∃nb,x 15=Q0v nb/\Nm K nb nmDe)/\(f 8=true->∃r,x 16=.map (some r)/\K.map r [])/\(f 9=true->∃r,x 17=.map (some r)/\K.map r [])/\(f 10=true->∃sb nb rs rm,x 18=Q2z sb nb rs rm/\Z5n K sb nb rs rm)/\(f 11=false/\L=[]\/f 11=true/\∃b,x 3=pt b/\L=[(b,L1z,.t 118)])) 1 6 #[true,true,true,true,true,true,true,true,true,true,true,true,false] kr ?_ ?_ ?_ ?_
 ·intro f x hf;have e4:f 4=false:=(hf 4).trans kr;have e7:f 7=false:=(hf 7).trans kr;have e8:f 8=false:=(hf 8).trans kr;have e9:f 9=false:=(hf 9).trans kr;have e10:f 10=false:=(hf 10).trans kr;have e11:f 11=false:=(hf 11).trans kr;exact⟨J,[],by simpa using S,gR,fun h=>(by rw[e4]at h;cases h),fun h=>(by rw[e7]at h;cases h),fun h=>(by rw[e8]at h;cases h),fun h=>(by rw[e9]at h;cases h),fun h=>(by rw[e10]at h;cases h),.inl ⟨e11,rfl⟩⟩
 ·rintro f x W ⟨K,L,S,hle,_⟩;exact vw S hle
 ·clear S;intro d hd f x W hf hfn hG;obtain⟨K,L,S,hle,h4,h7,h8,h9,h10,h11⟩:=hG;simp only[mem_cons,List.not_mem_nil,or_false]at hd;rcases hd with rfl|rfl|rfl|rfl|rfl|rfl
  ·refine⟨_,12,rfl,rfl,rfl,rfl,fun KK hKK=>?_⟩;refine yq ?_;go_simp;refine Q0a S (toSch_s (ct:=ct) (HS.out.mono hle)) ?_;rintro r5 K5 L5 R5 W' hle5 ⟨rfl,rfl,sb,rfl,hsb⟩ S;replace S:=sa S;refine hKK (pt sb) _ _ b0k ⟨K5,L,S,gT hle hle5,fun h=>?_,fun h=>?_,fun h=>?_,fun h=>?_,fun h=>?_,?_⟩
   ·exact⟨sb,by simp,hsb⟩
   ·exact e0s
   ·exact e0t
   ·exact e0u
   ·exact e0p
   ·exact e0h
  ·refine⟨_,15,rfl,rfl,rfl,rfl,fun KK hKK=>?_⟩;refine yq ?_;go_simp;refine Q0a S (X4f (J:=K) (nm:=nmDe) b0t) ?_;rintro r5 K5 L5 R5 W' hle5 ⟨rfl,rfl,nb,rfl,hnb⟩ S;replace S:=sa S;refine hKK (Q0v nb) _ _ b0k ⟨K5,L,S,gT hle hle5,fun h=>?_,fun h=>?_,fun h=>?_,fun h=>?_,fun h=>?_,?_⟩
   ·exact e0v
   ·exact⟨nb,by simp,hnb⟩
   ·exact e0t
   ·exact e0u
   ·exact e0p
   ·exact e0h
  ·refine⟨_,16,rfl,rfl,rfl,rfl,fun KK hKK=>?_⟩;refine yq ?_;refine wq_mk S rfl ?_;clear S;intro r W S;obtain⟨K5,hle5,hm5,S5⟩:=S.out.freezeM;refine hKK (.map (some r)) _ _ b1t ⟨K5,L,Hd S5,gT hle hle5,fun h=>?_,fun h=>?_,fun h=>?_,fun h=>?_,fun h=>?_,?_⟩
   ·exact e0v
   ·exact e0s
   ·exact⟨r,by simp,hm5⟩
   ·exact e0u
   ·exact e0p
   ·exact e0h
  ·refine⟨_,17,rfl,rfl,rfl,rfl,fun KK hKK=>?_⟩;refine yq ?_;refine wq_mk S rfl ?_;clear S;intro r W S;obtain⟨K5,hle5,hm5,S5⟩:=S.out.freezeM;refine hKK (.map (some r)) _ _ b1t ⟨K5,L,Hd S5,gT hle hle5,fun h=>?_,fun h=>?_,fun h=>?_,fun h=>?_,fun h=>?_,?_⟩
   ·exact e0v
   ·exact e0s
   ·exact e0t
   ·exact⟨r,by simp,hm5⟩
   ·exact e0p
   ·exact e0h
  ·refine⟨_,3,rfl,rfl,rfl,rfl,fun KK hKK=>?_⟩;refine yq ?_;refine Q3c S rfl ?_;clear S;intro b W S;have eL:L=[]:=h11.elim (fun h=>h.2) (fun h=>absurd h.1 (by simp[hfn]));subst eL;have hle5:=Gh.le_refl K;refine hKK (pt b) _ _ b1t ⟨K,[(b,L1z,.t 118)],S,hle,fun h=>?_,fun h=>?_,fun h=>?_,fun h=>?_,fun h=>?_,?_⟩
   ·exact e0v
   ·exact e0s
   ·exact e0t
   ·exact e0u
   ·exact e0p
   ·exact .inr ⟨by simp,b,by simp,rfl⟩
  ·refine⟨_,18,rfl,rfl,rfl,rfl,fun KK hKK=>?_⟩;simp only[all_cons,all_nil,Bool.and_true,Bool.and_eq_true]at hf;obtain⟨sb,e12,q4⟩:=h4 hf.1;obtain⟨nb,e15,q7⟩:=h7 hf.2.1;obtain⟨rs,e16,q8⟩:=h8 hf.2.2.1;obtain⟨rm,e17,q9⟩:=h9 hf.2.2.2;refine yq ?_;rw[e12,e15,e16,e17];unfold Q0v;have hle5:=Gh.le_refl K;refine Q2h (v:=.agg (L1t sb nb rs rm).toArray) (by go_simp) ?_;refine hKK _ _ _ (by simp only[Q5o,foldl_cons,List.foldl_nil,Act.put,List.setIfInBounds_toArray,List.set_cons_zero,List.set_cons_succ];rw[e12,e15,e16,e17];unfold Q0v;rfl) ⟨K,L,S,hle,fun h=>?_,fun h=>?_,fun h=>?_,fun h=>?_,fun h=>?_,?_⟩
   ·exact e0v
   ·exact e0s
   ·exact e0t
   ·exact e0u
   ·exact⟨sb,nb,rs,rm,by simp[Q2z],⟨q4,q7,q8,q9⟩⟩
   ·exact e0h
 ·clear S;intro f x W hf hG;obtain⟨K,L,S,hle,h4,h7,h8,h9,h10,h11⟩:=hG;simp only[all_cons,all_nil,Bool.and_true,Bool.and_eq_true]at hf;obtain⟨sb,nb,rs,rm,e18,hv⟩:=h10 hf.2.2.2.2.2;obtain⟨b,e3,rfl⟩:∃b,x 3=pt b/\L=[(b,L1z,.t 118)]:=h11.elim (fun h=>absurd h.1 (by rw[hf.2.2.2.2.1];decide)) (fun h=>h.2);refine yq ?_;rw[e18,e3];unfold Q2z;have HN:=Hd (And.intro hv hle);generalize x 12=x12;generalize x 15=x15;generalize x 16=x16;generalize x 17=x17;clear h4 h7 h8 h9 h10 h11 hf hv e18 e3;replace S:=sa S;refine Wr [] 0 12 fun KK hKK=>?_;refine Q0y (sub:=(L1t sb nb rs rm)) S rfl rfl rfl rf ?_;clear S;intro W S;refine hKK.out _ _ (vw S hle) ?_;clear hKK KK;refine yf ?_;refine En ?_;go_wp2_with (refine wk ?_)
  refine wp_loop_rounds 1 ?_;rw[rounds_succ];go_wp2_with (first|refine wk ?_|refine Ws ?_;clear S;intro W S)
  refine wp_loop_rounds 1 ?_;rw[rounds_succ];go_wp2_with (first|refine wk ?_|refine Ws ?_;clear S;intro W S)
  refine bT ?_;exact ap (L:=[]) HN.out.2 ⟨rfl,rfl,sb,nb,rs,rm,rfl,HN.out.1⟩ kp
end
section
theorem X1d(off:Nat):∀(vs:List Value) (k:Nat) (acc:Array Value),(vs.zipIdx k).foldl (fun cs (p:Value×Nat)=>cs.setIfInBounds (off+p.2) p.1) acc=(vs.zipIdx (off+k)).foldl (fun cs (p:Value×Nat)=>cs.setIfInBounds p.2 p.1) acc
 |[],_,_=>rfl
 |v::vs,k,acc=>by rw[List.zipIdx_cons,List.zipIdx_cons,foldl_cons,foldl_cons,X1d off vs (k+1),Nat.add_assoc]
theorem X2e{n i:Nat}{v:Value}{base:Array Value}{rest:List (Nat×Value)}{vs:List Value}(hv:v.cells=vs.toArray)(hn:vs.length=n)(hb:i*n+n<=base.size):
  Instr.fill (fun i=>some (i*n,n)) base ((i,v)::rest)=Instr.fill (fun i=>some (i*n,n)) (base.toList.take (i*n)++vs++base.toList.drop (i*n+n)).toArray rest:=by
 have key:=Z3j vs (i*n) base (by rw[hn];exact hb);have k2:=X1d (i*n) vs 0 base;have hnot:¬base.size<i*n+n:=Nat.not_lt.2 hb;rw[Instr.fill];simp only[hv,List.size_toArray,hn,ne_eq,not_true_eq_false,gt_iff_lt,hnot,decide_false,Bool.or_self,Bool.false_eq_true,if_false];rw[<-Array.foldl_toList,Array.toList_zipIdx];simp only[Nat.add_zero]at k2;rw[k2,key,hn]
section
variable{P:Program}{M:Nat->Prop}{I J:Gh}{w W:World}{L:List Blk}{R:List Rw}{ops:Array Oper}{rest:List Oper}{o:Oper}{a:Act}{Q:EAW}{K:AW}{n bytes:Nat}{s1 s2:List Value}{t e:TypeId}{x y:Operand}{z:Value}
theorem wq_two(S:Hid (St M I J w W L R))(ho:o.op=.buildSlice t 2 #[(0,x),(1,y)])(ht:P.underlying t=some (.slice e))(hi:Inf P e z n bytes)(hx:(a.eval x).cells=s1.toArray)(hy:(a.eval y).cells=s2.toArray)
  (h:∀b W',Hid (St M I J w W' ((b,s1++s2,.t e)::L) R)->K (a.put o.dst (.slice (some ⟨b,0,Option.none⟩) 2 2)) W')(h1:s1.length=n:=by rfl)(h2:s2.length=n:=by rfl)(h0:0<n:=by decide)(hs:n<=2 ^ 20:=by decide):o.wp P a W K Q:=by
 obtain⟨i,g1,g2,g3,_⟩:=hi.parts;subst g3;have hf:Instr.fill (fun j=>some (j*i.size,i.size)) ((Array.range (2*i.size)).map (z.cells[·% z.cells.size]!)) [(0,a.eval x),(1,a.eval y)]=some (s1++s2).toArray:=by
  rw[X2e hx h1 b1r,X2e hy h2 (by simp[h1];omega)];simp only[Instr.fill,Option.some.injEq];congr 1;simp only[Nat.zero_mul,List.take_zero,List.nil_append,Nat.zero_add,Nat.one_mul];rw[List.take_left' h1,List.drop_of_length_le (by simp[h1];omega),List.append_nil]
 refine wp_buildSlice t e 2 _ ho (s1++s2).toArray i z ht g1 g2 om om b1f ?_;exact h _ _ (Hd (S.out.alloc _ rfl (s1++s2) e))
theorem wl_two(S:Hid (St M I J w W L R))(hg:o.guard=none)(ho:o.op=.buildSlice t 2 #[(0,x),(1,y)])(ht:P.underlying t=some (.slice e))(hi:Inf P e z n bytes)(hx:(a.eval x).cells=s1.toArray)(hy:(a.eval y).cells=s2.toArray)
  (h:∀b W',Hid (St M I J w W' ((b,s1++s2,.t e)::L) R)->wpList P ops Q rest (a.put o.dst (.slice (some ⟨b,0,Option.none⟩) 2 2)) W')(h1:s1.length=n:=by rfl)(h2:s2.length=n:=by rfl)(h0:0<n:=by decide)(hs:n<=2 ^ 20:=by decide):wpList P ops Q (o::rest) a W:=
 Q0l (Q0b hg _) fun _ hK=>wq_two S ho ht hi hx hy (fun b W' S'=>hK _ _ (h b W' S')) h1 h2 h0 hs
end
end
section
def X0i(t:Tr):Bool:=t.isMap&&decide (nodesT t<=400)&&Q1c t&&Q1i t
variable{x:IV}{v:V6}{I:Gh}
theorem z0s{P:Prop}(h:P:=by
 go_wp2_with (first|refine wk ?_|refine Ws ?_;clear S;intro W S|refine wn ?_;clear S;intro _ W S)
 go_ret;exact⟨J,by unfold X0i;rw[HM.out,ho,decide_eq_true hn];rfl,S.out.step⟩):P:=h
theorem tree_x(hv:VIs I v x)(hx:x.bulk<2 ^ 30)(w:World)(hi:I.In w):Calls prog 125 #[v.agg] w fun e w'=>∃K,e=.returned (.bool (X0i x.tr))/\Step Nix I K w w':=by
 unfold V6.agg;refine Q0c (M:=Nix) hi ?_;intro W S;go_enter func125,ntmps125;go_wp2_with (first|refine wk ?_|refine Ws ?_;clear S;intro W S|refine wn ?_;clear S;intro _ W S)
 refine(Q7j hv om _ S.out.inw).mono ?_;rintro e W ⟨r,J,rfl,st,hr⟩;replace S:=Hd (S.out.call st);have htb:x.tr.bulk<2 ^ 32:=by have:=Q2o x;omega
 clear st;have HR:=Hd hr;have hrk:r.k=x.tr.kind:=by obtain⟨a1,c1,a2,c2,vs,e6,_⟩:=hr.kids;rw[e6]
 clear hr;unfold V6.agg;by_cases hm:x.tr.isMap=true
 ·have h6:r.k=6:=by rw[hrk];cases q:x.tr<;>first|rfl|(rw[q]at hm;cases hm)
  rw[h6];have HM:=Hd hm;have HR2:Hid (Calls prog 83 #[.agg (L1i r.n r.f r.s r.a1 r.n1 r.c1 r.a2 r.n2 r.c2).toArray]=Calls prog 83 #[r.agg]):=by unfold V6.agg;rw[h6];rfl
  have HR3:Hid (Calls prog 137 #[.agg (L1i r.n r.f r.s r.a1 r.n1 r.c1 r.a2 r.n2 r.c2).toArray]=Calls prog 137 #[r.agg]):=by unfold V6.agg;rw[h6];rfl
  have HR4:Hid (Calls prog 180 #[.agg (L1i r.n r.f r.s r.a1 r.n1 r.c1 r.a2 r.n2 r.c2).toArray]=Calls prog 180 #[r.agg]):=by unfold V6.agg;rw[h6];rfl
  clear hm h6 hrk;go_wp2_with (first|refine wk ?_|refine Ws ?_;clear S;intro W S|refine wn ?_;clear S;intro _ W S)
  rw[HR2.out];refine got S (nodes_x HR.out htb) ?_;clear S;intro W S;by_cases hn:nodesT x.tr<=400
  ·have hd:decide ((nodesT x.tr:Int)<=400)=true:=by simp;omega
   go_wp2_with (first|refine wk ?_|refine Ws ?_;clear S;intro W S|refine wn ?_;clear S;intro _ W S)
   rw[HR3.out];refine got S (orderly_x HR.out htb) ?_;clear S;intro W S;cases ho:Q1c x.tr with
   |true=>
    go_wp2_with (first|refine wk ?_|refine Ws ?_;clear S;intro W S|refine wn ?_;clear S;intro _ W S)
    rw[HR4.out];refine got S (noNull_x HR.out htb) ?_;clear S;intro W S;exact z0s
   |false=>
    exact z0s
  ·have hd:decide ((nodesT x.tr:Int)<=400)=false:=by simp;omega
   go_wp2_with (first|refine wk ?_|refine Ws ?_;clear S;intro W S|refine wn ?_;clear S;intro _ W S)
   go_ret;exact⟨J,by unfold X0i;rw[HM.out,decide_eq_false hn];rfl,S.out.step⟩
 ·have h6:(r.k==6)=false:=by rw[hrk];cases q:x.tr<;>first|rfl|(rw[q]at hm;exact absurd rfl hm)
  have h6p:¬(r.k=6):=fun e=>by rw[e]at h6;cases h6
  have hm2:x.tr.isMap=false:=by simpa using hm
  go_wp2_with (first|refine wk ?_|refine Ws ?_;clear S;intro W S|refine wn ?_;clear S;intro _ W S)
  go_ret;exact⟨J,by unfold X0i;rw[hm2];rfl,S.out.step⟩
def X0s(t:Tr):Bool:=(Q0f t).all fun p=>match atT t p with
 |some (.map [])=>false
 |_=>true
def X8w(t:Tr):Bool:=match t with
 |.map []=>true
 |_=>false
theorem X7e(t:Tr):X0s t=(Q0f t).all fun p=>!X8w ((atT t p).getD .null):=by
 unfold X0s;congr 1;funext p;cases atT t p with
 |none=>rfl
 |some u=>cases u<;>first|rfl|(rename_i m;cases m<;>rfl)
mutual
theorem Q6h:∀(t:Tr) (q:List PE),q∈Q0f t->q.length<=t.bulk/\∀k∈q,ByteArray.size k<=t.bulk
 |.map m,q,h=>by
  have:=Z6f m q (by simpa only[Q0f]using h);simp only[Tr.bulk];exact⟨by omega,fun k hk=>by have:=this.2 k hk;omega⟩
 |.null,q,h=>by simp[Q0f]at h
 |.bool _,q,h=>by simp[Q0f]at h
 |.int _,q,h=>by simp[Q0f]at h
 |.flt _,q,h=>by simp[Q0f]at h
 |.str _,q,h=>by simp[Q0f]at h
 |.list _,q,h=>by simp[Q0f]at h
theorem Z6f:∀(m:KT) (q:List PE),q∈Q1u m->q.length<=Q3m m/\∀k∈q,ByteArray.size k<=Q3m m
 |[],q,h=>by simp[Q1u]at h
 |(k,t)::m,q,h=>by
  have hp:=t.bulk_pos;simp only[Q1u,mem_cons,List.mem_append,List.mem_map]at h;simp only[Q3m];rcases h with rfl|⟨q',h',rfl⟩|h
  ·refine⟨by simp;omega,fun k' hk=>?_⟩;rw[List.mem_singleton.1 hk];omega
  ·have:=Q6h t q' h';refine⟨by simp;omega,fun k' hk=>?_⟩;rcases mem_cons.1 hk with e|hk
   ·rw[e];omega
   ·have:=this.2 k' hk;omega
  ·have:=Z6f m q h;exact⟨by omega,fun k' hk=>by have:=this.2 k' hk;omega⟩
end
theorem X3y{t:Tr}(ht:t.bulk<=2 ^ 30):Z2u (Q0f t):=fun q hq=>by
 have:=Q6h t q hq;exact⟨by omega,fun k hk=>by have:=this.2 k hk;unfold maxLen;omega⟩
theorem path_atC{w:World}{A:OA}{vs:List Value}{ps:List (List PE)}(h:Q2f w A vs)(ha:All2 (Q2l I) vs ps){i:Nat}{q:List PE}(hq:ps[i]?=some q):∃b o qa qc,A=some ⟨b,o,none⟩/\w.cell? ⟨b,o+i,none⟩=some (.slice qa q.length qc)/\Q2l I (.slice qa q.length qc) q:=by
 have hl:=ha.length;have hi:i<vs.length:=by rw[hl];exact(List.getElem?_eq_some_iff.1 hq).1
 have hv:vs[i]?=some vs[i]:=List.getElem?_eq_getElem hi;have hp:=ha.get hv hq;obtain⟨qa,qc,e,_,_,hf⟩:=id hp;rw[e]at hv hp;rcases h with e1|⟨b,o,e1,h⟩
 ·rw[e1]at hi;exact absurd hi (Nat.not_lt_zero _)
 ·exact⟨b,o,qa,qc,e1,h i _ hv,hp⟩
theorem z0r{P:Prop}(h:P:=by
 go_wp2_with (first|refine wk ?_|refine Ws ?_;clear S;intro W S|refine wn ?_;clear S;(first|(fail_if_success revert b0);intro b0 W S|intro _ W S))
 go_roundg ((Q0f x.tr).length -(i+1))
 case measure=>omega
 case rel=>exact⟨i+1,K2,rfl,hlt,rfl,Hd S.out.pop,HL,rel⟩):P:=h
theorem Z3m(hv:VIs I v x)(hx:x.bulk<2 ^ 30)(w:World)(hi:I.In w):Calls prog 73 #[v.agg] w fun e w'=>∃K,e=.returned (.bool (X0s x.tr&&X0i x.tr))/\Step Nix I K w w':=by
 unfold V6.agg;refine Q0c (M:=Nix) hi ?_;intro W S;go_enter func73,ntmps73;go_wp2_with (first|refine wk ?_|refine Ws ?_;clear S;intro W S|refine wn ?_;clear S;(first|(fail_if_success revert b0);intro b0 W S|intro _ W S))
 refine(Q7j hv om _ S.out.inw).mono ?_;rintro e W ⟨r,J,rfl,st,hr⟩;replace S:=Hd (S.out.call st);have htb:x.tr.bulk<2 ^ 30:=by have:=Q2o x;omega
 have htok:=x.tr_ok;clear st hv;unfold V6.agg;go_wp2_with (first|refine wk ?_|refine Ws ?_;clear S;intro W S|refine wn ?_;clear S;(first|(fail_if_success revert b0);intro b0 W S|intro _ W S))
 have hrb:x.tr.iv.bulk<2 ^ 30:=by rw[Q3s];exact htb
 refine(Z6r (p:=[]) (pa:=none) (pc:=0) hr (.inl ⟨rfl,rfl⟩) (by simp only[List.length_nil];omega) _ S.out.inw).mono ?_;rintro e W ⟨rp,K,rfl,st,hp⟩;replace S:=Hd (S.out.call st);have hr:=hr.mono st.le;clear st;rw[Q9k htok]at hp;have e0:(Q0f x.tr).map ([]++·)=Q0f x.tr:=by simp
 rw[e0]at hp;obtain⟨a1,c1,vs,rfl,_,_,hf1,ha1⟩:=hp;have hpl:=Z3k x.tr;have HP:=Hd (nd4 hf1 ha1 hr htok);have hpl2:(Q0f x.tr).length<=2 ^ 30:=by omega
 clear hf1 ha1 e0 hr htok hpl;go_wp2_with (first|refine wk ?_|refine Ws ?_;clear S;intro W S|refine wn ?_;clear S;(first|(fail_if_success revert b0);intro b0 W S|intro _ W S))
 go_loopg [4,5,6,12] (Q0f x.tr).length (fun g s4 s5 s6 s12 wr=>∃(i:Nat) (K':Gh),s12=.int .i64 (i:Nat)/\i<=(Q0f x.tr).length/\g=(Q0f x.tr).length -i/\Hid (St Nix I K' w wr [(b0,L0a r,35)] [])/\Hid (K.le K')/\Hid (((Q0f x.tr).take i).all (fun p=>!X8w ((atT x.tr p).getD .null))=true))
 case atStart=>exact⟨0,K,rfl,Nat.zero_le _,rfl,S,gR,rfl⟩
 case round=>
  clear S;obtain⟨i,K',rfl,hil,hg,S,HL,H⟩:=hrel;by_cases hlt:i<(Q0f x.tr).length
  ·obtain⟨p,hq⟩:∃p,(Q0f x.tr)[i]?=some p:=gx hlt;obtain⟨b,o,pa,pc,rfl,hcell,hpf⟩:=path_atC (Q2f.flat (HP.out.1.mono HL.out) S.out.inw) (HP.out.2.1.imp fun _ _ k=>Q2l.mono k HL.out) hq;have hpb:=X3y (by omega:x.tr.bulk<=2 ^ 30) p (List.mem_of_getElem? hq);have HX:=Hd (nd3 hq hpf hpb);clear hq hpf hpb;go_wp2_with (first|refine Q5f rf rf rf hcell kr ?_|refine wk ?_|refine Ws ?_;clear S;intro W S|refine wn ?_;clear S;(first|(fail_if_success revert b0);intro b0 W S|intro _ W S))
   refine(Z1r (v:=r) (HP.out.2.2.1.mono HL.out) (by rw[Q3s];omega) _ p HX.out.2.1 (by have:=HX.out.2.2.1;omega) HX.out.2.2.2 _ S.out.inw).mono ?_;rintro e W ⟨r2,K2,rfl,st,hr2⟩;replace S:=Hd (S.out.call st);replace HL:=Hd (gT HL.out st.le);clear st hcell;have hat:atT x.tr.iv.tr p=atT x.tr p:=by rw[Q9k HP.out.2.2.2]
   rw[hat]at hr2;have hk2:r2.k=((atT x.tr p).getD .null).kind/\r2.n2=((atT x.tr p).getD .null).kids.length:=by obtain⟨a1,c1,a2,c2,vs,e6,_⟩:=hr2.kids;rw[e6];exact⟨rfl,rfl⟩
   obtain⟨hk2,hk3⟩:=hk2;clear hr2 hat;unfold V6.agg;rw[hk3];generalize hu:(atT x.tr p).getD .null=u at hk2 hk3⊢;cases hm:X8w u with
   |true=>
    have h6:r2.k=6:=by rw[hk2];cases u<;>first|rfl|(cases hm)
    have h0:u.kids.length=0:=by cases u<;>first|rfl|(rename_i m;cases m<;>first|rfl|cases hm)|cases hm
    have hf:X0s x.tr=false:=by
     rw[X7e];refine List.all_eq_false.2 ⟨p,List.mem_of_getElem? HX.out.1,?_⟩;rw[hu,hm];simp
    rw[h6,h0];go_wp2_with (first|refine wk ?_|refine Ws ?_;clear S;intro W S|refine wn ?_;clear S;(first|(fail_if_success revert b0);intro b0 W S|intro _ W S))
    go_ret;exact⟨K2,by rw[hf];rfl,S.out.step⟩
   |false=>
    have rel:Hid (((Q0f x.tr).take (i+1)).all (fun p=>!X8w ((atT x.tr p).getD .null))=true):=by
     show _=true;rw[List.take_add_one,HX.out.1,List.all_append,H.out];simp only[Option.toList_some,all_cons,all_nil,hu,hm];rfl
    clear H HX;cases h6:(r2.k==6)with
    |false=>
     clear hk2 hk3 hu hm;exact z0r
    |true=>
     have e6:r2.k=6:=by simpa using h6
     have h0:((u.kids.length:Int)==0)=false:=by
      rw[e6]at hk2;cases u<;>first|(exfalso;revert hk2;simp[Tr.kind];done)|skip;rename_i m
      cases m with
      |nil=>cases hm
      |cons a m=>simp[Tr.kids];omega
     rw[e6];generalize u.kids.length=ul at h0⊢;clear hk2 hk3 h6 e6 hu hm;exact z0r
  ·have e1:i=(Q0f x.tr).length:=by omega
   subst e1;have hf:X0s x.tr=true:=by rw[X7e];have:=H.out;rwa [List.take_length]at this
   clear H hg hil;go_wp2_with (first|refine wk ?_|refine Ws ?_;clear S;intro W S|refine wn ?_;clear S;(first|(fail_if_success revert b0);intro b0 W S|intro _ W S))
   refine(tree_x (v:=r) (HP.out.2.2.1.mono HL.out) hrb _ S.out.inw).mono ?_;rintro e W ⟨K2,rfl,st⟩;replace S:=Hd (S.out.call st);clear st;go_wp2_with (first|refine wk ?_|refine Ws ?_;clear S;intro W S|refine wn ?_;clear S;(first|(fail_if_success revert b0);intro b0 W S|intro _ W S))
   go_ret;exact⟨K2,by rw[hf,Q9k HP.out.2.2.2];rfl,S.out.step⟩
end
end Go.Proofs.YtbmklgemmjgjfaaGreat
