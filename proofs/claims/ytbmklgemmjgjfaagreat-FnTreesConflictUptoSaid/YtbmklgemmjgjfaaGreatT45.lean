/- Part 45: Ans, Mrg. -/
import Derived.Test.YtbmklgemmjgjfaaGreatT42
import Derived.Test.YtbmklgemmjgjfaaGreatT43
namespace Go.Proofs.YtbmklgemmjgjfaaGreat
open List (mem_of_getElem?)
open Go.RowKit Go.Maps Tryz
set_option linter.unusedVariables false
set_option linter.unusedSimpArgs false
set_option maxRecDepth 100000
set_option maxHeartbeats 16000000
variable{J:Gh}
section
def Z3l(K:Gh)(u:Value)(ys:List (BA×List PE)):Prop:=∃(A:OA) (c:Nat) (zs:KV),u=.slice A ys.length c/\ys.length<=c/\c<=maxLen/\Q0u K A (zs.flatMap Q2w)/\All2 (fun x y=>x.1=y.1/\Q2l K x.2 y.2) zs ys
variable{ys:List (BA×List PE)}{u:Value}{K:Gh}
theorem Z3l.mono(h:Z3l J u ys)(l:J.le K):Z3l K u ys:=by
 obtain⟨A,c,zs,h1,h2,h3,h4,h5⟩:=h;exact⟨A,c,zs,h1,h2,h3,h4.mono l,h5.imp fun _ _ k=>⟨k.1,k.2.mono l⟩⟩
theorem Z1e(x:BA×Value):(Q2w x).length=2:=rfl
variable{i mr:Nat}
theorem cf_at{A:OA}{xs:KV}(h:Q0u J A (xs.flatMap Q2w)){x:BA×Value}(hx:xs[i]?=some x):∃b o,A=some (ad b o)/\∀(j:Nat) u,(Q2w x)[j]?=some u->J.cell (ad b (o+i*2+j)) u:=by
 have g:∀j u,(Q2w x)[j]?=some u->(xs.flatMap Q2w)[i*2+j]?=some u:=fun j u hu=>Q3x Z1e hx hu;rcases h with⟨_,e⟩|⟨b,o,e,h⟩
 ·exact e1f
 ·exact⟨b,o,e,fun j u hu=>by rw[Nat.add_assoc];exact h _ _ (g j u hu)⟩
variable{k v:BA}{zs vs e:KV}
theorem cf_last{v:Value}(hl:zs.length=i):(zs.flatMap Q2w++[.string k,v])[i*2]?=some (.string k):=by
 have h1:(zs.flatMap Q2w).length=i*2:=by rw[Z4v Z1e,hl]
 rw[List.getElem?_append_right om,h1];simp
theorem cf_prev{v:Value}{j:Nat}(h:zs[j]?=some (k,u)):(zs.flatMap Q2w++[.string k,v])[j*2]?=some (.string k):=by
 have h1:(zs.flatMap Q2w)[j*2+0]?=some (.string k):=Q3x Z1e h rfl;rw[Nat.add_zero]at h1;rw[List.getElem?_append_left (List.getElem?_eq_some_iff.1 h1).1,h1]
theorem X6q{K:Gh}{k:BA}:∀{zs:KV} {ys:List (BA×List PE)},All2 (fun x y=>x.1=y.1/\Q2l K x.2 y.2) zs ys->(∀y∈ys,y.1=k)->∀x∈zs,x.1=k
 |_,_,.nil,_,x,hx=>absurd hx b0f
 |_,_,.cons h t,hk,x,hx=>by
  rcases List.mem_cons.1 hx with rfl|hx
  ·rw[h.1];exact hk _ (List.mem_cons_self ..)
  ·exact X6q t (fun y hy=>hk y (List.mem_cons_of_mem _ hy)) x hx
theorem fromCf_s{ca:OA}{cc:Nat}(hf:Q0u J ca (vs.flatMap Q2w))(ha:All2 (CfIs J) vs ys)(hk:∀y∈ys,y.1=k)(hl:ys.length<2 ^ 30)(hp:∀y∈ys,y.2.length<2 ^ 30):
  Ac 106 #[.slice ca vs.length cc] J [] []<|N0 fun u K=>Z3l K u ys:=by
 intro M I w W S;have hvl:=ha.length;have HT:=Hd (nd6 hf ha hk hl hp hvl);clear hf ha hk hl hp hvl;go_enter func106,ntmps106;replace S:=Hd (S.out.nilrow 95 2);go_wp2_with fail
 go_loopg [3,9] vs.length (fun g s3 s9 wr=>∃(i:Nat) (K:Gh) (A:OA) (c:Nat) (zs:KV) (T:List Blk),s3=.slice A i c/\s9=.int .i64 (i:Nat)/\i<=vs.length/\g=vs.length -i/\zs.length=i/\Hid (St M I K w wr T [⟨.slice A i c,95,2,i,zs.flatMap Q2w⟩])/\Hid (J.le K/\All2 (fun x y=>x.1=y.1/\Q2l K x.2 y.2) zs (ys.take i)))
 case atStart=>exact⟨0,J,none,0,[],_,rfl,rfl,Nat.zero_le _,rfl,rfl,S,Hd ⟨gR,.nil⟩⟩
 case round=>
  clear S;obtain⟨i,K,A,c,zs,T,rfl,rfl,hi1,hg,hzl,S,HW⟩:=hrel;by_cases hlt:i<vs.length
  ·obtain⟨⟨kv,pv⟩,hv⟩:∃x,vs[i]?=some x:=gx hlt;obtain⟨⟨ky,p⟩,hy⟩:∃x,ys[i]?=some x:=gx (by have:=HT.out.2.2.2.2.2;omega);obtain⟨hkk,pa,pc,bs,hpv,_,_,hbs,hfl⟩:=HT.out.2.1.get hv hy;have hky:=HT.out.2.2.1 _ (mem_of_getElem? hy);dsimp only at hkk hpv hbs hfl hky;subst hkk hpv hky;obtain⟨b2,o2,rfl,hX0⟩:=cf_at (HT.out.1.mono HW.out.1) hv;have hX:Hid (∀(j:Nat) u,((L2h kv pa p.length pc):List Value)[j]?=some u->K.cell (ad b2 (o2+i*2+j)) u):=Hd hX0;have HX:=Hd (nd4 (hfl.mono HW.out.1) (hbs.imp fun _ _ h=>h.mono HW.out.1) (HT.out.2.2.2.2.1 _ (mem_of_getElem? hy)) (Q1k hy));have hN:i+1<2 ^ 32:=by have:=HT.out.2.2.2.1;have:=HT.out.2.2.2.2.2;omega
   have HK:=Hd HT.out.2.2.1;clear hv hy hbs hfl hX0;go_wp2_with (first|refine X9l (sub:=(L2h kv pa p.length pc)) rf rfl rfl rfl hX.out S.out.inw ?_|refine wk ?_|refine Ws ?_;clear S;intro W S|refine wn ?_;clear S;intro y W S)
   refine Rg S [(y,L2h kv pa p.length pc,.t 327)] [] [] [0,1,2,3,4] 5 fun W S=>?_;refine Zw [6] 3 5 ?_;intro KK hKK;go_simp;refine Q0a S (Z7z (J:=K) (c:=pc) (bs:=bs) (rd_frz HX.out.1) HX.out.2.1 HX.out.2.2.1) ?_;clear S;rintro r5 K5 L5 R5 W' hle5 ⟨hKJ,rfl,ua,uc,rfl,rfl⟩ S;have hJK:=hKJ.symm;subst hJK;replace S:=sa S;obtain⟨K2,ua2,uc2,hle2,hv2,hn2,hm2,hf2,S3⟩:=S.out.rfreeze;have e2:ua2=ua/\uc2=uc:=b1k
   obtain⟨rfl,rfl⟩:=e2;have HQ:=Hd (And.intro (show Q2l K2 (.slice ua2 p.length uc2) p from⟨ua2,uc2,rfl,hn2,hm2,hf2⟩) hle2);clear S hv2 hn2 hm2 hf2;have S:=Hd S3;clear S3;refine Tw [] 2 7 ?_;intro KK hKK;refine Q1s (sub:=(L2h kv ua2 p.length uc2)) S rfl underlying45 rfl ?_;clear S;intro z W S;refine Yw [9] 0 8 ?_;intro KK hKK;refine Q1m S rfl rfl rfl underlying45 in95 rfl hN ?_;clear S;intro A1 c1 W S;refine Et ?_;obtain⟨g,rfl⟩:=row_g S.out;have hbl:Op.bytesLess kv.toList kv.toList=false:=by rw[Z1t];exact Q2r _
   have HE:=Hd (nd3 hzl hi1 hlt);have HZ:Hid (∀(x:BA×Value),x∈zs->x.1=kv):=Hd (X6q HW.out.2 fun y hy=>HK.out y (List.mem_of_mem_take hy));clear hzl hlt hi1;by_cases hi0:i=0
   ·subst hi0;go_wp2_with fail
    refine wp_loop_rounds 1 ?_;rw[rounds_succ];go_wp2_with fail
    refine Rg S [] [⟨.slice (some (ad g 0)) (0+1) c1,95,2,0+1,zs.flatMap Q2w++(L2h kv ua2 p.length uc2)⟩] [] [0,1,2,3,4,5,6,7,8,9,10,11,12,13,14,15] 0 fun W S=>?_;refine tk2 ?_;refine En ?_;go_wp2_with fail
    go_roundg (vs.length -(0+1))
    case measure=>have:=HE.out.2.2;omega
    case rel=>exact⟨0+1,K2,some (ad g 0),c1,zs++[(kv,.slice ua2 p.length uc2)],_,rfl,by simp,by have:=HE.out.2.2;omega,rfl,by simp[HE.out.1],b1p,Hd ⟨gT HW.out.1 HQ.out.2,by rw[HX.out.2.2.2];exact Q1e (HW.out.2.imp fun _ _ h=>⟨h.1,h.2.mono HQ.out.2⟩) ⟨rfl,HQ.out.1⟩⟩⟩
   ·obtain⟨j,rfl⟩:∃j,i=j+1:=⟨i -1,by omega⟩
    obtain⟨⟨kz,uz⟩,hz⟩:∃x,zs[j]?=some x:=gx (by have:=HE.out.1;omega);have hkz:kz=kv:=HZ.out _ (mem_of_getElem? hz);subst hkz;have HJ:=Hd (And.intro (cf_last (k:=kz) (v:=.slice ua2 p.length uc2) HE.out.1) (cf_prev (v:=.slice ua2 p.length uc2) hz));have hj0:(0:Int)<=(j:Int)+1:=by omega
    have hj2:j<j+1+1:=by omega
    have hj4:(j:Int)<(j:Int)+1:=by omega
    have hj3:(j:Int)<(j:Int)+1+1:=by omega
    have hw:IntKind.i64.wrap (j:Int)=(j:Int):=by rw[IntKind.wrap_i64];have:=HE.out.2.2;have:=HT.out.2.2.2.1;have:=HT.out.2.2.2.2.2;omega
    clear hz;go_wp2_with fail
    refine wp_loop_rounds 1 ?_;rw[rounds_succ];go_wp2_with fail
    refine Rg S [] [⟨.slice (some (ad g 0)) (j+1+1) c1,95,2,j+1+1,zs.flatMap Q2w++(L2h kz ua2 p.length uc2)⟩] [] [0,1,2,3,4,5,6,7,8,9,10,11,12,13,14,15] 0 fun W S=>?_;refine tk3 ?_;refine En ?_;go_wp2_with fail
    go_roundg (vs.length -(j+1+1))
    case measure=>have:=HE.out.2.2;omega
    case rel=>exact⟨j+1+1,K2,some (ad g 0),c1,zs++[(kz,.slice ua2 p.length uc2)],_,rfl,by simp,by have:=HE.out.2.2;omega,rfl,by simp[HE.out.1],b1p,Hd ⟨gT HW.out.1 HQ.out.2,by rw[HX.out.2.2.2];exact Q1e (HW.out.2.imp fun _ _ h=>⟨h.1,h.2.mono HQ.out.2⟩) ⟨rfl,HQ.out.1⟩⟩⟩
  ·have hi2:i=vs.length:=by omega
   subst hi2;go_wp2_with fail
   obtain⟨K2,qa,qc,hle2,hv2,hn2,hm2,hf2,S3⟩:=S.out.rfreeze;simp only[Value.slice.injEq,true_and]at hv2;obtain⟨rfl,rfl⟩:=hv2;have h2:=HW.out.2;rw[HT.out.2.2.2.2.2,List.take_length]at h2;refine bT ?_;exact ap (L:=[]) (gT HW.out.1 hle2) ⟨rfl,rfl,A,c,zs,by rw[HT.out.2.2.2.2.2];rfl,by rw[<-HT.out.2.2.2.2.2];exact hn2,hm2,hf2,h2.imp fun _ _ h=>⟨h.1,h.2.mono hle2⟩⟩ (show St _ _ _ _ _ _ _ from keep (Hd S3))
@[go_sem] theorem taa229(v:Value)(xT:TypeId)(w:World):(Instr.typeAssert (.iface 229 v) xT 229 true).run prog w=.ok (.tuple #[v,.bool true]) w:=Z7a underlying229 rfl v xT w
structure An where
 ok:Bool
 cs:List (BA×List PE)
 ch:Bool
 live:Tr
 ms:List Mgn
structure A10 where
 ok:Bool
 ca:OA
 cn:Nat
 cc:Nat
 ch:Bool
 x:V6
 ma:OA
 mn:Nat
 mc:Nat
def A10.agg(a:A10):Value:=.agg #[.bool a.ok,.slice a.ca a.cn a.cc,.bool a.ch,.int .i64 a.x.k,.int .i64 a.x.n,.float .f64 a.x.f,.string a.x.s,.slice a.x.a1 a.x.n1 a.x.c1,.slice a.x.a2 a.x.n2 a.x.c2,.slice a.ma a.mn a.mc]
structure AnIs(K:Gh)(v:BA)(a:A10)(r:An):Prop where
 ok:a.ok=r.ok
 cs:Z3l K (.slice a.ca a.cn a.cc) r.cs
 ch:a.ch=r.ch
 live:VIs K a.x r.live.iv
 ms:Q9d K v (.slice a.ma a.mn a.mc) r.ms
theorem AnIs.mono{a:A10}{r:An}(h:AnIs J v a r)(l:J.le K):AnIs K v a r:=⟨h.ok,h.cs.mono l,h.ch,h.live.mono l,h.ms.mono l⟩
theorem Z3l.nil(K:Gh):Z3l K (sn) []:=⟨none,0,[],rfl,Nat.le_refl _,Nat.zero_le _,.inl ⟨rfl,rfl⟩,.nil⟩
theorem Q9d.nil(K:Gh)(v:BA):Q9d K v (sn) []:=⟨none,0,[],rfl,Nat.le_refl _,Nat.zero_le _,.inl ⟨rfl,rfl⟩,rfl,fun x h=>absurd h b0f⟩
def MsOf(e:KV)(F:MF)(ms:List Mgn):Prop:=ms.map Mgn.name=e.map (·.1)/\∀m∈ms,∃f,F m.name=some (f,m.ap)/\m.ps=f.all
theorem answerC_s{ca:OA}{cc:Nat}(hf:Q0u J ca (vs.flatMap Q2w))(ha:All2 (CfIs J) vs ys)(hk:∀y∈ys,y.1=k)(hl:ys.length<2 ^ 30)(hp:∀y∈ys,y.2.length<2 ^ 30):
  Ac 53 #[pn,.map (some mr),.iface 229 (.slice ca vs.length cc)] J [] []<|N0 fun u K=>∃a:A10,u=a.agg/\AnIs K v a ⟨false,ys,false,.null,[]⟩:=by
 intro M I w W S;have HT:=Hd (nd5 hf ha hk hl hp);clear hf ha hk hl hp;go_enter func53,ntmps53;go_wp2_with (first|refine wn ?_;clear S;intro y W S|refine wk ?_)
 refine Q0a S (fromCf_s HT.out.1 HT.out.2.1 HT.out.2.2.1 HT.out.2.2.2.1 HT.out.2.2.2.2) ?_;clear S;rintro r5 K5 L5 R5 W' hle5 ⟨rfl,rfl,A,c,zs,rfl,q1,q2,q3,q4⟩ S;have HC:=Hd (And.intro (show Z3l K5 (.slice A ys.length c) ys from⟨A,c,zs,rfl,q1,q2,q3,q4⟩) hle5);clear q1 q2 q3 q4 hle5;replace S:=sa S;go_wp2_with (refine Ws ?_;clear S;intro W S)
 refine bT ?_;exact ap (L:=[]) HC.out.2 ⟨rfl,rfl,⟨false,A,ys.length,c,false,⟨0,0,0,⟨#[]⟩,none,0,0,none,0,0⟩,none,0,0⟩,rfl,⟨rfl,HC.out.1,rfl,Q6z (Nat.zero_le _),Q9d.nil _ _⟩⟩ kp
variable{F:MF}
theorem answerT_s{tb sb nb:Nat}{t:Tr}(ht:TvIs J tb sb nb t)(hb:t.bulk<2 ^ 30)(hm:J.map mr e)(hv:VSs J v e F)(hl:e.length<2 ^ 30)(hB:∀k f ap,F k=some (f,ap)->f.cnt<2 ^ 29)(hz:∀p∈e,ByteArray.size p.1<=maxLen):
  Ac 53 #[pt tb,.map (some mr),.nilIface] J [] []<|N0 fun u K=>∃(a:A10) (ms:List Mgn),u=a.agg/\AnIs K v a ⟨true,[],true,t,ms⟩/\MsOf e F ms:=by
 intro M I w W S;have HT:=Hd (nd5 hm hv hl hB hz);have HY:=Hd (And.intro ht hb);clear ht hb hm hv hl hB hz;go_enter func53,ntmps53;go_wp2_with (first|refine wn ?_;clear S;intro y W S|refine wk ?_)
 refine Q0a S (X5r HY.out.1 HY.out.2) ?_;clear S;rintro r5 K5 L5 R5 W' HX ⟨rfl,rfl,x,rfl,hx⟩ S;have HV:=Hd hx;clear hx;replace S:=sa S;unfold V6.agg;go_wp2_with fail
 refine Q0a S (X3d (HT.out.1.mono HX) (HT.out.2.1.mono HX) HT.out.2.2.1 HT.out.2.2.2.1 HT.out.2.2.2.2) ?_;clear S;rintro r6 K6 L6 R6 W' hle6 ⟨rfl,rfl,ms,⟨A,c,xs,rfl,q1,q2,q3,q4,q5⟩,hn,hF⟩ S;have HM:=Hd (nd4 (show Q9d K6 v (.slice A ms.length c) ms from⟨A,c,xs,rfl,q1,q2,q3,q4,q5⟩) hn hF hle6);clear q1 q2 q3 q4 q5 hn hF hle6;replace S:=sa S;go_wp2_with (refine Ws ?_;clear S;intro W S)
 refine bT ?_;exact ap (L:=[]) (gT HX HM.out.2.2.2) ⟨rfl,rfl,⟨true,none,0,0,true,x,A,ms.length,c⟩,ms,rfl,⟨rfl,Z3l.nil _,rfl,HV.out.mono HM.out.2.2.2,HM.out.1⟩,HM.out.2.1,HM.out.2.2.1⟩ kp
theorem answerN_s(hm:J.map mr e)(hv:VSs J v e F)(hl:e.length<2 ^ 30)(hB:∀k f ap,F k=some (f,ap)->f.cnt<2 ^ 29)(hz:∀p∈e,ByteArray.size p.1<=maxLen):
  Ac 53 #[pn,.map (some mr),.nilIface] J [] []<|N0 fun u K=>∃(a:A10) (ms:List Mgn),u=a.agg/\AnIs K v a ⟨true,[],false,.null,ms⟩/\MsOf e F ms:=by
 intro M I w W S;have HT:=Hd (nd5 hm hv hl hB hz);clear hm hv hl hB hz;go_enter func53,ntmps53;go_wp2_with (first|refine wn ?_;clear S;intro y W S|refine wk ?_)
 refine Q0a S (X1c (J:=J)) ?_;clear S;rintro r5 K5 L5 R5 W' HX ⟨hKJ,rfl,rfl,rfl⟩ S;have hJK:=hKJ.symm;subst hJK;replace S:=sa S;unfold V6.agg;go_wp2_with fail
 refine Q0a S (X3d (HT.out.1.mono HX) (HT.out.2.1.mono HX) HT.out.2.2.1 HT.out.2.2.2.1 HT.out.2.2.2.2) ?_;clear S;rintro r6 K6 L6 R6 W' hle6 ⟨rfl,rfl,ms,⟨A,c,xs,rfl,q1,q2,q3,q4,q5⟩,hn,hF⟩ S;have HM:=Hd (nd4 (show Q9d K6 v (.slice A ms.length c) ms from⟨A,c,xs,rfl,q1,q2,q3,q4,q5⟩) hn hF hle6);clear q1 q2 q3 q4 q5 hn hF hle6;replace S:=sa S;go_wp2_with (refine Ws ?_;clear S;intro W S)
 refine bT ?_;exact ap (L:=[]) (gT HX HM.out.2.2.2) ⟨rfl,rfl,⟨true,none,0,0,false,⟨0,0,0,⟨#[]⟩,none,0,0,none,0,0⟩,A,ms.length,c⟩,ms,rfl,⟨rfl,Z3l.nil _,rfl,Q6z (Nat.zero_le _),HM.out.1⟩,HM.out.2.1,HM.out.2.2.1⟩ kp
end
section
def MergeP(J:Gh)(w:World)(t:Tr)(e:Ending)(w':World):Prop:=∃(r:V6) (J':Gh),e=.returned r.agg/\Step Nix J J' w w'/\VIs J' r t.iv
def MergeH(N:Nat):Prop:=∀(J:Gh) (v:V6) (x:IV) (u:V6) (y:IV) (w:World),x.bulk<N->y.bulk<2 ^ 30->J.In w->VIs J v x->VIs J u y->Calls prog 38 #[v.agg,u.agg] w (MergeP J w (Q0d x.tr y.tr))
theorem merge_not{a b:Tr}(h:(a.isMap&&b.isMap)=false):Q0d a b=b:=by
 cases a<;>cases b<;>simp[Q0d,Tr.isMap]at h⊢
theorem Z5k(ma:KT):∀(out mb:KT) (i:Nat) (k:BA) (x:Tr),mb[i]?=some (k,x)->Q1x ma out (mb.take (i+1))=insK (Q1x ma out (mb.take i)) k (match findK ma k with
  |some w=>Q0d w x
  |none=>x)
 |out,[],i,k,x,h=>by simp at h
 |out,(l,y)::mb,0,k,x,h=>by
  simp at h;obtain⟨rfl,rfl⟩:=h;simp only[List.take_succ_cons,List.take_zero,Q1x];rfl
 |out,(l,y)::mb,i+1,k,x,h=>by
  rw[List.take_succ_cons,List.take_succ_cons,Q1x,Q1x];exact Z5k ma _ mb i k x b0b
theorem Z7v(ma:KT):∀(out mb:KT),(Q1x ma out mb).length<=out.length+mb.length
 |out,[]=>by simp[Q1x]
 |out,(k,x)::mb=>by
  rw[Q1x];refine Nat.le_trans (Z7v ma _ mb) ?_;refine Nat.le_trans (Nat.add_le_add_right (Q3r out k _) _) ?_;simp;omega
structure Mg(I:Gh)(w:World)(ra rb:V6)(B:Nat)(J:Gh)(mo:KT)(J':Gh)(W:World)(r:V6):Prop where
 step:Step Nix I J' w W
 le:J.le J'
 a:W.heap[w.heap.size]?=some (.cells (L0a ra).toArray 35 (0,0))
 b:W.heap[w.heap.size+1]?=some (.cells (L0a rb).toArray 35 (0,0))
 res:W.heap[w.heap.size+1+1]?=some (.cells L0c.toArray 35 (0,0))
 out:W.heap[B]?=some (.cells (L0a r).toArray 35 (0,0))
 val:VIs J' r (Tr.map mo).iv
 n2:J' (w.heap.size+1+1)=none
 nB:J' B=none
variable{ra rb r:V6}{w W:World}{I J':Gh}{mo:KT}{B:Nat}
theorem Mg.setOut{mo':KT}{r':V6}(h:Mg I w ra rb B J mo J' W r)(hB:w.heap.size+1+1<B)(hv:VIs J' r' (Tr.map mo').iv):Mg I w ra rb B J mo' J' (W.setRow B (L0a r').toArray) r':=
 ⟨h.step.setRow h.nB (fun hb=>absurd hb om) _,h.le,(setRow_other _ _ _ _ om).trans h.a,(setRow_other _ _ _ _ om).trans h.b,(setRow_other _ _ _ _ om).trans h.res,setRow_heap _ _ _ _ _ _ h.out,hv,h.n2,h.nB⟩
theorem Mg.setMid(h:Mg I w ra rb B J mo J' W r){c:Nat}(hB:w.heap.size+1+1<c)(hn:c≠B)(hc:J' c=none)(cs:Array Value):Mg I w ra rb B J mo J' (W.setRow c cs) r:=
 ⟨h.step.setRow hc (fun hb=>absurd hb om) _,h.le,(setRow_other _ _ _ _ om).trans h.a,(setRow_other _ _ _ _ om).trans h.b,(setRow_other _ _ _ _ om).trans h.res,(setRow_other _ _ _ _ om).trans h.out,h.val,h.n2,h.nB⟩
theorem Mg.val_a(h:Mg I w ra rb B J mo J' W r){t:Tr}(k:VIs J ra t.iv):VIs J' ra t.iv:=k.mono h.le
theorem Mg.later{J'':Gh}{W':World}(h:Mg I w ra rb B J mo J' W r)(st:Step Nix J' J'' W W'):Mg I w ra rb B J mo J'' W' r:=
 ⟨h.step.trans0 st,gT h.le st.le,st.heap h.a (fun x=>x),st.heap h.b (fun x=>x),st.heap h.res (fun x=>x),st.heap h.out (fun x=>x),h.val.mono st.le,
  (st.old _ (Q1r h.res) (fun x=>x)).trans h.n2,(st.old _ (Q1r h.out) (fun x=>x)).trans h.nB⟩
theorem z1b{P:Prop}(h:P:=by
 clear hmm;go_wp2_with (first|refine wpList_load_row rf 35 _ rf (w.heap.size+1) rf 35 _ _ _ T2 underlying35 rfl sz35 ?_|refine wpList_store_row rf 35 _ _ rf (w.heap.size+1+1) (L0a rb).toArray rf rf 35 _ hres sz35 rfl (one6 rfl rfl rfl rfl rfl rfl) ?_)
 refine bT ?_;exact⟨rb,J,rfl,TT.out.step.setRow RES.out.2 (fun hb=>absurd hb om) _,by rw[hal.out];exact TT.out.vb⟩):P:=h
theorem z1c{P:Prop}(h:P:=by
 unfold V6.agg;go_wp2_with (refine wpList_store_row rf 35 _ _ rf (wc.heap.size) (L0a r4).toArray rf rf 35 _ o4 sz35 rfl (one6 rfl rfl rfl rfl rfl rfl) ?_)
 go_roundg (ks.length -(i+1))
 case measure=>have:=HX.out.2.1;omega
 case rel=>exact⟨i+1,J4,r4,rfl,by omega,rfl,MFH.out⟩):P:=h
theorem merge_t(N:Nat)(HC:MergeH N)(I:Gh)(v:V6)(x:IV)(u:V6)(y:IV)(w:World)(hi:I.In w)(hv:VIs I v x)(hu:VIs I u y)(hxb:x.bulk<2 ^ 30)(hyb:y.bulk<2 ^ 30)(hN:x.bulk<=N):
  Calls prog 38 #[v.agg,u.agg] w (MergeP I w (Q0d x.tr y.tr)):=by
 unfold V6.agg;go_enter func38,ntmps38;go_upto_region 1 with fail;have qa:(((w.alloc (.cells (L0a v).toArray 35)).alloc (.cells (L0a u).toArray 35)).alloc (.cells L0c.toArray 35)).heap[w.heap.size]?=some (.cells (L0a v).toArray 35 (0,0)):=(Q0m b1r).trans ((Q0m b0f).trans (Q1b rfl));have qb:(((w.alloc (.cells (L0a v).toArray 35)).alloc (.cells (L0a u).toArray 35)).alloc (.cells L0c.toArray 35)).heap[w.heap.size+1]?=some (.cells (L0a u).toArray 35 (0,0)):=(Q0m b0f).trans (Q1b b0f);have qc:(((w.alloc (.cells (L0a v).toArray 35)).alloc (.cells (L0a u).toArray 35)).alloc (.cells L0c.toArray 35)).heap[w.heap.size+1+1]?=some (.cells L0c.toArray 35 (0,0)):=Q1b b0f;have st0:Step Nix I I w (((w.alloc (.cells (L0a v).toArray 35)).alloc (.cells (L0a u).toArray 35)).alloc (.cells L0c.toArray 35)):=(((Step.refl hi).alloc _).alloc _).alloc _;have pA:=Q0h qa;obtain⟨⟨pa0,pa1,pa2,pa3,pa4,pa5⟩,_⟩:=pA;have pB:=Q0h qb;obtain⟨⟨pb0,pb1,pb2,pb3,pb4,pb5⟩,_⟩:=pB;have la:=Q1r qa;have lb:=Q1r qb;have lc:=Q1r qc;generalize ((w.alloc (.cells (L0a v).toArray 35)).alloc (.cells (L0a u).toArray 35)).alloc (.cells L0c.toArray 35)=W0 at*;go_cut [4]from 11 (fun s4 wx=>s4=.pointer (some ⟨w.heap.size+1+1,0,none⟩)/\∃ra rb J,Two I w x.tr y.tr J wx ra rb/\wx.heap[w.heap.size+1+1]?=some (.cells L0c.toArray 35 (0,0))/\J (w.heap.size+1+1)=none)
 case first=>
  have nab:¬w.heap.size+1=w.heap.size:=by omega
  have nba:¬w.heap.size=w.heap.size+1:=by omega
  go_region_with (first|go_at_call 24;refine(Q7j (hu.mono R2.out.1.le) om _ ?_).mono ?_;(exact R2.out.1.inw);rintro e w3 ⟨r3,J3,rfl,st3,hr3⟩;have zA:=Q0h (st3.heap (R2.out.1.heap qa (fun x=>x)) (fun x=>x));obtain⟨⟨za0,za1,za2,za3,za4,za5⟩,⟨fa0,fa1,fa2,fa3,fa4,fa5⟩⟩:=zA;have zB:=Q0h (st3.heap (R2.out.1.heap qb (fun x=>x)) (fun x=>x));obtain⟨⟨zb0,zb1,zb2,zb3,zb4,zb5⟩,⟨fb0,fb1,fb2,fb3,fb4,fb5⟩⟩:=zB;have R3:=Hd (And.intro st3 hr3);clear st3 hr3 ya0 ya1 ya2 ya3 ya4 ya5 yb0 yb1 yb2 yb3 yb4 yb5;unfold V6.agg|go_at_call 24;refine(Q7j hv om _ ?_).mono ?_;(exact st0.inw);rintro e w2 ⟨r2,J2,rfl,st2,hr2⟩;have yA:=Q0h (st2.heap qa (fun x=>x));obtain⟨⟨ya0,ya1,ya2,ya3,ya4,ya5⟩,_⟩:=yA;have yB:=Q0h (st2.heap qb (fun x=>x));obtain⟨⟨yb0,yb1,yb2,yb3,yb4,yb5⟩,_⟩:=yB;have R2:=Hd (And.intro st2 hr2);clear st2 hr2 pa0 pa1 pa2 pa3 pa4 pa5 pb0 pb1 pb2 pb3 pb4 pb5;unfold V6.agg)
  all_goals
   try refine NoPanic.normal ?_
   have hst:=st0.drew.trans0 (R2.out.1.trans0 R3.out.1)
   have oA:=R3.out.1.heap (R2.out.1.heap qa (fun x=>x)) (fun x=>x)
   have oB:=R3.out.1.heap (R2.out.1.heap qb (fun x=>x)) (fun x=>x)
   have jA:J3 w.heap.size=none:=(R3.out.1.old _ (R2.out.1.lt la) (fun x=>x)).trans ((R2.out.1.old _ la (fun x=>x)).trans (hi.none om))
   have jB:J3 (w.heap.size+1)=none:=(R3.out.1.old _ (R2.out.1.lt lb) (fun x=>x)).trans ((R2.out.1.old _ lb (fun x=>x)).trans (hi.none om))
   have e1:=Z6m oA (.int .i64 r2.k) (.int .i64 r2.n) (.float .f64 r2.f) (.string r2.s) (.slice r2.a1 r2.n1 r2.c1) (.slice r2.a2 r2.n2 r2.c2)
   have oB':=(setRow_other _ w.heap.size (w.heap.size+1) (L0a r2).toArray om).trans oB
   have e2:=Z6m oB' (.int .i64 r3.k) (.int .i64 r3.n) (.float .f64 r3.f) (.string r3.s) (.slice r3.a1 r3.n1 r3.c1) (.slice r3.a2 r3.n2 r3.c2)
   simp only[e1,e2]
   go_wp2_with fail
   go_meet
   exact⟨rfl,r2,r3,J3,⟨(hst.setRow jA (fun hb=>absurd hb om) _).setRow jB (fun hb=>absurd hb om) _,(setRow_other _ _ _ _ om).trans (setRow_heap _ _ _ _ _ _ oA),setRow_heap _ _ _ _ _ _ oB',(R2.out.2.mono R3.out.1.le),R3.out.2,jA,jB⟩,(setRow_other _ _ _ _ om).trans ((setRow_other _ _ _ _ om).trans (R3.out.1.heap (R2.out.1.heap qc (fun x=>x)) (fun x=>x))),(R3.out.1.old _ (R2.out.1.lt lc) (fun x=>x)).trans ((R2.out.1.old _ lc (fun x=>x)).trans (hi.none om))⟩
 case rest=>
  obtain⟨rfl,ra,rb,J,T,hres,hjr⟩:=hcut;clear qa qb qc st0 pa0 pa1 pa2 pa3 pa4 pa5 pb0 pb1 pb2 pb3 pb4 pb5 la lb lc;have okA:=x.tr_ok;have okB:=y.tr_ok;have hAb:=Q2o x;have hBb:=Q2o y;generalize x.tr=ta at*;generalize y.tr=tb at*;have TT:=Hd T;have RES:=Hd (And.intro hres hjr);have T1:=T.a;have T2:=T.b;have hsA:=Q0h T1;obtain⟨⟨pa0,_,_,_,_,_⟩,_⟩:=hsA;have hsB:=Q0h T2;obtain⟨⟨pb0,_,_,_,pb4,pb5⟩,_⟩:=hsB;have ea:ra.k=ta.kind:=by obtain⟨_,_,_,_,_,e,_⟩:=T.va.kids;rw[e]
  have eb:rb.k=tb.kind:=by obtain⟨_,_,_,_,_,e,_⟩:=T.vb.kids;rw[e]
  have f2:(ra.k != 6)=!ta.isMap:=by rw[ea];exact Q7n ta
  have f3:(rb.k != 6)=!tb.isMap:=by rw[eb];exact Q7n tb
  clear ea eb;cases hmm:(ta.isMap&&tb.isMap)with
  |false=>
   have hal:=Hd (merge_not hmm);have qR:=Hd (setRow_heap _ (w.heap.size+1+1) _ (L0a rb).toArray 35 (0,0) hres);clear T pb4 pb5 hjr;cases hmA:ta.isMap with
   |false=>
    rw[hmA]at f2;exact z1b
   |true=>
    have hmB:tb.isMap=false:=by rw[hmA]at hmm;simpa using hmm
    rw[hmA]at f2;rw[hmB]at f3;exact z1b
  |true=>
   simp only[Bool.and_eq_true]at hmm;obtain⟨ma,rfl⟩:=Q2q hmm.1;obtain⟨mb,rfl⟩:=Q2q hmm.2;rw[hmm.1]at f2;rw[hmm.2]at f3;obtain⟨b1,d1,b2,d2,us,eB,sB,nB,xB,aB,kB,zB⟩:=T.vb.kids;obtain⟨ks,hks⟩:∃ks,ks=mb.map (·.1):=⟨_,rfl⟩
   obtain⟨l,hl⟩:∃l,l=mb.map (·.2):=⟨_,rfl⟩
   have eB':rb=⟨6,0,0,⟨#[]⟩,b1,ks.length,d1,b2,l.length,d2⟩:=by rw[hks,hl];exact eB
   subst eB';have sB':Q4h J b1 ks:=by rw[hks];exact sB
   have zB':∀y∈ks,ByteArray.size y<=maxLen:=by rw[hks];exact zB
   have aB':All2 (fun v u=>VIs J v u.iv) us l:=by rw[hl];exact aB
   have hm:ks.length<=2 ^ 30:=by have:=Z0e (Tr.map mb);rw[hks];simp only[Tr.kids,List.length_map]at this⊢;omega
   have hma:ma.length<=2 ^ 30:=by have:=Z0e (Tr.map ma);simp only[Tr.kids,List.length_map]at this;omega
   have hm2:l.length<=2 ^ 30:=by rw[hl];rw[hks]at hm;simpa using hm
   have HA:=Hd (nd6 hks hl sB' aB' xB zB');have hszc:=T.step.size;have qo:=heap_alloc_new wc (.cells L0c.toArray 35);have qo2:=setRow_heap _ wc.heap.size _ (L0a ra).toArray 35 (0,0) qo;have hJn:J wc.heap.size=none:=T.step.inw.none (Nat.le_refl _);have la:=Q1r T.a;have lb:=Q1r T.b;have lr:=Q1r hres;have M0:Mg I w ra ⟨6,0,0,⟨#[]⟩,b1,ks.length,d1,b2,l.length,d2⟩ wc.heap.size J ma J ((wc.alloc (.cells L0c.toArray 35)).setRow wc.heap.size (L0a ra).toArray) ra:=
    ⟨(T.step.alloc _).setRow hJn (fun hb=>absurd hb om) _,gR,(setRow_other _ _ _ _ om).trans ((Q0m la).trans T.a),(setRow_other _ _ _ _ om).trans ((Q0m lb).trans T.b),(setRow_other _ _ _ _ om).trans ((Q0m lr).trans hres),qo2,T.va,hjr,hJn⟩
   have MM:=Hd M0;have mb4:=Q0e M0.b 4;have mb5:=Q0e M0.b 5;simp at mb4 mb5;clear sB nB xB aB kB zB sB' aB' zB' hks hl eB hmm pb5 hjr T M0 qo2;go_wp2_with (first|refine wpList_load_row rf 35 _ rf (w.heap.size) rf 35 _ _ _ T1 underlying35 rfl sz35 ?_|refine wpList_store_row rf 35 _ _ rf (wc.heap.size) (L0a ra).toArray rf rf 35 _ qo sz35 rfl (one6 rfl rfl rfl rfl rfl rfl) ?_)
   go_loopg [28] ks.length (fun g y wr=>∃(i:Nat) (J':Gh) (r:V6),y=.int .i64 (i:Nat)/\i<=ks.length/\g=ks.length -i/\Mg I w ra ⟨6,0,0,⟨#[]⟩,b1,ks.length,d1,b2,l.length,d2⟩ wc.heap.size J (Q1x ma ma (mb.take i)) J' wr r)
   case atStart=>exact⟨0,J,ra,rfl,Nat.zero_le _,rfl,MM.out⟩
   case round=>
    clear mb4 mb5 T1 T2 pa0 pb0 pb4 qo hJn la lb lr f2 f3 hres;obtain⟨i,J',r,rfl,hil,hg,M⟩:=hrel;have hlk:ks.length=mb.length:=by rw[HA.out.1];simp
    by_cases hlt:i<ks.length
    ·obtain⟨⟨key,ut⟩,hp⟩:∃p,mb[i]?=some p:=gx om;have hkey:ks[i]?=some key:=by rw[HA.out.1,List.getElem?_map,hp];rfl
     have hut:l[i]?=some ut:=by rw[HA.out.2.1,List.getElem?_map,hp];rfl
     obtain⟨ve,hv'⟩:∃v,us[i]?=some v:=gx (by rw[HA.out.2.2.2.1.length];exact(List.getElem?_eq_some_iff.1 hut).1);have hli:i<l.length:=(List.getElem?_eq_some_iff.1 hut).1;obtain⟨b1',o1,rfl,hs1⟩:∃b o,b1=some ⟨b,o,none⟩/\J.cell ⟨b,o+i,none⟩ (.string key):=by
      rcases HA.out.2.2.1 with⟨_,e⟩|⟨b,o,e,h⟩
      ·rw[e]at hkey;simp at hkey
      ·exact⟨b,o,e,h i key hkey⟩
     obtain⟨b2',o2,rfl,hs2⟩:∃b o,b2=some ⟨b,o,none⟩/\Six J b (o+i*6) ve:=by
      rcases HA.out.2.2.2.2.1 with⟨_,e⟩|⟨b,o,e,h⟩
      ·rw[e]at hv';simp at hv'
      ·exact⟨b,o,e,h i ve hv'⟩
     have inJ:=M.step.inw.mono M.le;have dk:=hs1.at inJ;have d:=hs2.at inJ;have hV:=(HA.out.2.2.2.1.get hv' hut).mono M.le;have hwB:=Q1r M.out;have hksz:=HA.out.2.2.2.2.2 key (mem_of_getElem? hkey);have pb:=Q0h M.b;obtain⟨⟨_,_,_,_,pb4,pb5⟩,_⟩:=pb;have HX:=Hd (nd5 hp hg hV hlk hksz);have q1:=heap_alloc_new wr (.cells L0c.toArray 35);have q2:=setRow_heap _ wr.heap.size _ (L0a ve).toArray 35 (0,0) q1;have hsz:=M.step.size;have hJ1:J' wr.heap.size=none:=M.step.inw.none (Nat.le_refl _);have s1:Step Nix J' J' wr _:=((Step.refl M.step.inw).alloc (.cells L0c.toArray 35)).setRow hJ1 (fun hb=>absurd hb om) (L0a ve).toArray;have M1:=M.later s1;have a1:=M1.a;have MH:=Hd M1;have Q2:=Hd q2;clear hkey hut hv' hs1 hs2 hV hp hg hlk M M1 s1 hksz;go_wp2_with (first|refine Q3h rf _ rf b2' (o2+i*6) rf _ _ _ _ _ _ d ?_|refine wpList_store_row rf 35 _ _ rf (wr.heap.size) (L0a ve).toArray rf rf 35 _ q1 sz35 rfl (one6 rfl rfl rfl rfl rfl rfl) ?_|refine wpList_load_row rf 35 _ rf (w.heap.size) rf 35 _ _ _ a1 underlying35 rfl sz35 ?_)
     refine(X5p (MH.out.val_a ?va) okA key _ MH.out.step.inw).mono ?_
     case va=>exact TT.out.va
     rintro e w2 ⟨v',rfl,st2,hv'⟩;have M2:=MH.out.later st2;have r8:=st2.heap Q2.out (fun x=>x);have q3:=heap_alloc_new w2 (.cells L0c.toArray 35);have q4:=setRow_heap _ w2.heap.size _ (L0a v').toArray 35 (0,0) q3;have hJ2:J' w2.heap.size=none:=M2.step.inw.none (Nat.le_refl _);have s3:Step Nix J' J' w2 _:=((Step.refl M2.step.inw).alloc (.cells L0c.toArray 35)).setRow hJ2 (fun hb=>absurd hb om) (L0a v').toArray;have M3:=M2.later s3;have l8:=Q1r r8;have r8':=(setRow_other (w2.alloc (.cells L0c.toArray 35)) w2.heap.size wr.heap.size (L0a v').toArray om).trans ((Q0m l8).trans r8);have o3:=M3.out;have hBc:w.heap.size+1+1<wc.heap.size:=Q1r RES.out.1;have hlen:(Q1x ma ma (mb.take i)).length<=2 ^ 32:=by
      have h1:=Z7v ma ma (mb.take i);have h2:(mb.take i).length<=i:=by rw[List.length_take];exact Nat.min_le_left _ _
      omega
     have okO:(Tr.map (Q1x ma ma (mb.take i))).ok:=Z6v ma ma (mb.take i) okA.sorted (fun p hp=>okA.field hp) (fun p hp=>okA.field hp) (fun p hp=>okB.field (List.mem_of_mem_take hp));have hstep:=Z5k ma ma mb i key ut HX.out.1;have VX:=Hd (nd6 hv' hlen okO hstep hBc (nd3 hJ1 (show w.heap.size+1+1<wr.heap.size by omega) (show wc.heap.size<wr.heap.size by omega)));have M3H:=Hd M3;have R8:=Hd r8';clear st2 hv' M2 r8 s3 M3 hlen okO hstep hBc d dk pb4 pb5 a1 q1;unfold V6.agg;cases hf:findK ma key with
     |none=>
      have e1:Q5p (.map ma) key=none:=hf;have HF:=Hd hf;clear hf;simp only[e1,Option.isSome_none];go_wp2_with (first|refine wpList_store_row rf 35 _ _ rf (w2.heap.size) (L0a v').toArray rf rf 35 _ q3 sz35 rfl (one6 rfl rfl rfl rfl rfl rfl) ?_|refine wpList_load_row rf 35 _ rf (wc.heap.size) rf 35 _ _ _ o3 underlying35 rfl sz35 ?_|refine wpList_load_row rf 35 _ rf (wr.heap.size) rf 35 _ _ _ r8' underlying35 rfl sz35 ?_)
      refine(Z0x M3H.out.val VX.out.2.2.1 HX.out.2.2.1 key HX.out.2.2.2.2 VX.out.2.1 _ M3H.out.step.inw).mono ?_;rintro e w4 ⟨r4,J4,rfl,st4,hr4⟩;have M4:=M3H.out.later st4;have o4:=M4.out;have M5:=M4.setOut VX.out.2.2.2.2.1 hr4;have MF:Mg I w ra ⟨6,0,0,⟨#[]⟩,some ⟨b1',o1,none⟩,ks.length,d1,some ⟨b2',o2,none⟩,l.length,d2⟩ wc.heap.size J (Q1x ma ma (mb.take (i+1))) J4 (w4.setRow wc.heap.size (L0a r4).toArray) r4:=by
       rw[VX.out.2.2.2.1,HF.out];exact M5
      have MFH:=Hd MF;clear st4 hr4 M4 M5 MF o3 r8';exact z1c
     |some wz=>
      have e1:Q5p (.map ma) key=some wz:=hf;have HF:=Hd hf;have vV:VIs J' v' wz.iv:=by have:=VX.out.1;rw[e1]at this;exact this
      have hbx:wz.iv.bulk<N:=by
       have h1:=Q4i (Q0o hf);rw[Q3s];simp only[Tr.bulk]at hAb h1;omega
      have hby:ut.iv.bulk<2 ^ 30:=by
       have h1:=Q4i (mem_of_getElem? HX.out.1);rw[Q3s];simp only[Tr.bulk]at hBb h1;omega
      have okU:ut.ok:=okB.field (p:=(key,ut)) (mem_of_getElem? HX.out.1);have okV:wz.ok:=okA.field (p:=(key,wz)) (Q0o hf);have VV:=Hd (nd3 vV hbx hby);clear hf vV hbx hby;simp only[e1,Option.isSome_some];go_wp2_with (first|refine wpList_store_row rf 35 _ _ rf (w2.heap.size) (L0a v').toArray rf rf 35 _ q3 sz35 rfl (one6 rfl rfl rfl rfl rfl rfl) ?_|refine wpList_load_row rf 35 _ rf (w2.heap.size) rf 35 _ _ _ q4 underlying35 rfl sz35 ?_|refine wpList_load_row rf 35 _ rf (wr.heap.size) rf 35 _ _ _ r8' underlying35 rfl sz35 ?_)
      refine(HC J' v' wz.iv ve ut.iv _ VV.out.2.1 VV.out.2.2 M3H.out.step.inw VV.out.1 HX.out.2.2.1).mono ?_;rintro e w3 ⟨r3,J3,rfl,st3,hr3⟩;rw[Q9k okU,Q9k okV]at hr3;have M4:=M3H.out.later st3;have r8b:=st3.heap R8.out (fun x=>x);have j8:J3 wr.heap.size=none:=(st3.old _ (Q1r R8.out) (fun x=>x)).trans VX.out.2.2.2.2.2.1;have r8c:=setRow_heap _ wr.heap.size _ (L0a r3).toArray 35 (0,0) r8b;have M5:=M4.setMid (c:=wr.heap.size) VX.out.2.2.2.2.2.2.1 (by have:=VX.out.2.2.2.2.2.2.2;omega) j8 (L0a r3).toArray;have o5:=M5.out;have M5H:=Hd M5;have HR3:=Hd hr3;clear st3 hr3 M4 j8 M5 o3 r8' q3 q4;unfold V6.agg;go_wp2_with (first|refine wpList_store_row rf 35 _ _ rf (wr.heap.size) (L0a r3).toArray rf rf 35 _ r8b sz35 rfl (one6 rfl rfl rfl rfl rfl rfl) ?_|refine wpList_load_row rf 35 _ rf (wc.heap.size) rf 35 _ _ _ o5 underlying35 rfl sz35 ?_|refine wpList_load_row rf 35 _ rf (wr.heap.size) rf 35 _ _ _ r8c underlying35 rfl sz35 ?_)
      refine(Z0x M5H.out.val VX.out.2.2.1 HR3.out key HX.out.2.2.2.2 VX.out.2.1 _ M5H.out.step.inw).mono ?_;rintro e w4 ⟨r4,J4,rfl,st4,hr4⟩;have M6:=M5H.out.later st4;have o4:=M6.out;have M7:=M6.setOut VX.out.2.2.2.2.1 hr4;have MF:Mg I w ra ⟨6,0,0,⟨#[]⟩,some ⟨b1',o1,none⟩,ks.length,d1,some ⟨b2',o2,none⟩,l.length,d2⟩ wc.heap.size J (Q1x ma ma (mb.take (i+1))) J4 (w4.setRow wc.heap.size (L0a r4).toArray) r4:=by
       rw[VX.out.2.2.2.1,HF.out];exact M7
      have MFH:=Hd MF;clear st4 hr4 M6 M7 MF o5 r8b r8c;exact z1c
    ·obtain rfl:i=ks.length:=by omega
     have MH:=Hd M;have HL:=Hd hlk;have o3:=M.out;have hr:=M.res;have qR:=Hd (setRow_heap _ (w.heap.size+1+1) _ (L0a r).toArray 35 (0,0) hr);clear hg M hlk;go_wp2_with (first|refine wpList_load_row rf 35 _ rf (wc.heap.size) rf 35 _ _ _ o3 underlying35 rfl sz35 ?_|refine wpList_store_row rf 35 _ _ rf (w.heap.size+1+1) (L0a r).toArray rf rf 35 _ hr sz35 rfl (one6 rfl rfl rfl rfl rfl rfl) ?_)
     refine bT ?_;refine⟨r,J',rfl,MH.out.step.setRow MH.out.n2 (fun hb=>absurd hb om) _,?_⟩;have:=MH.out.val;rw[HL.out,List.take_length]at this;rw[Q0d];exact this
theorem X1u:∀N,N<=2 ^ 30->MergeH N
 |0,_=>fun J v x u y w hx _ _ _ _=>absurd hx (Nat.not_lt_zero _)
 |N+1,hN=>fun J v x u y w hx hy hi hv hu=>merge_t N (X1u N om) J v x u y w hi hv hu om hy om
theorem merge_x{v:V6}{x:IV}{u:V6}{y:IV}(hv:VIs I v x)(hu:VIs I u y)(hx:x.bulk<2 ^ 30)(hy:y.bulk<2 ^ 30)(w:World)(hi:I.In w):Calls prog 38 #[v.agg,u.agg] w (MergeP I w (Q0d x.tr y.tr)):=
 X1u (2 ^ 30) (Nat.le_refl _) I v x u y w hx hy hi hv hu
end
end Go.Proofs.YtbmklgemmjgjfaaGreat
