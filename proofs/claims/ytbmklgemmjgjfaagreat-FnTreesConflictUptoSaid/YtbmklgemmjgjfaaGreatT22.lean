/- Part 22: Fin, Sal, Fif. -/
import Derived.Test.YtbmklgemmjgjfaaGreatT16
import Derived.Test.YtbmklgemmjgjfaaGreatT17
import Derived.Test.YtbmklgemmjgjfaaGreatT21
namespace Go.Proofs.YtbmklgemmjgjfaaGreat
open List (append_assoc append_nil cons_append flatMap_append flatMap_cons length_append length_cons length_drop length_nil nil_append)
open Go.RowKit Go.Maps Tryz
set_option linter.unusedVariables false
set_option linter.unusedSimpArgs false
set_option maxRecDepth 100000
set_option maxHeartbeats 4000000
variable{e:PE}{b x:Nat}{J:Gh}
section
theorem Z1w{α:Type}{f:α->List Value}{k:Nat}(hk:∀x,(f x).length=k):∀(i:Nat) (l:List α),(l.flatMap f).drop (i*k)=(l.drop i).flatMap f
 |0,l=>by simp
 |i+1,[]=>by simp
 |i+1,a::l=>by
  rw[flatMap_cons,List.drop_succ_cons,Nat.succ_mul,Nat.add_comm,<-List.drop_drop,List.drop_left' (hk a)];exact Z1w hk i l
theorem Z6w{α:Type}{f:α->List Value}{k:Nat}(hk:∀x,(f x).length=k):∀(i:Nat) (l:List α),(l.flatMap f).take (i*k)=(l.take i).flatMap f
 |0,l=>by simp
 |i+1,[]=>by simp
 |i+1,a::l=>by
  rw[flatMap_cons,List.take_succ_cons,flatMap_cons,Nat.succ_mul,Nat.add_comm,List.take_append,hk a,Nat.add_sub_cancel_left,Z6w hk i l,List.take_of_length_le (by rw[hk];omega)]
variable{v1 v2:Value}
theorem insertPe_s{m:List PE}{bs:List Nat}(hb:All2 (Nm J) bs m)(hx:Nm J x e)(hm:m.length<2 ^ 30)(hs:Inc m):
  Ac 205 #[pt b,Q3u x] J [setBlk b v1 v2] [memRw v1 bs] fun u K L' R'=>u=.tuple #[]/\K=J/\∃v1' bs',All2 (Nm J) bs' (insL m e)/\L'=[setBlk b v1' v2]/\R'=[memRw v1' bs']:=by
 intro M I w W S;unfold Q3u setBlk memRw at*;obtain⟨A,c,e1⟩:=Q6e (S.out.row .head);dsimp only at e1;subst e1;have HB:=Hd (nd4 hb hx hm hs);clear hb hx hm hs;go_enter func205,ntmps205;go_wp2_with (first|refine wk ?_|refine Ws ?_;clear S;intro W S|refine wn ?_;clear S;intro y W S)
 refine Rg S [(b,[.slice A bs.length c,v2],.t 316),(y,L1m x,.t 358)] [] [] [0,1,2,3,4] 6 fun W S=>?_;refine Zw [6,7,8,9,10] 0 5 ?_;intro K hK;go_simp;refine(searchPe_x J A bs.length c bs m _ (Q2f.own (S.out.row .head)) HB.out.1 HB.out.1.length (by have:=HB.out.1.length;have:=HB.out.2.2.1;omega) HB.out.2.2.2 x e HB.out.2.1 S.out.inw).mono ?_;rintro e' W ⟨rfl,st⟩;replace S:=Hd (S.out.call st);clear st;refine Et ?_;cases hf:decide (m[lowP m e]?=some e)with
 |true=>
  go_wp2_with fail
  refine bT ?_;exact ap gR ⟨rfl,rfl,_,bs,by rw[X4r e HB.out.2.2.2,if_pos b1f];exact HB.out.1,rfl,rfl⟩ S.out.pop
 |false=>
  go_wp2_with fail
  refine Rg S [(b,[.slice A bs.length c,v2],.t 316),(y,L1m x,.t 358)] [] [11] [0,1,2,3,4,5,6] 5 fun W S=>?_;refine Zw [] 4 7 ?_;intro K hK;refine Q1s S rfl underlying250 rfl ?_;clear S;intro y2 W S;refine Yw [9,10] 1 8 ?_;intro K hK;go_simp;refine(insPe_x bs.length (lowP m e) _ _ _ y2 1 _ (S.out.row .head) (by rw[HB.out.1.length];exact Z4y m e) (by rw[HB.out.1.length];exact HB.out.2.2.1) rfl (Z7k (bs:=[x])) Z7k (S.out.heap .head) (rowne S .head .head)).mono ?_;rintro e' W' ⟨v',rfl,g1,g2,g3⟩;obtain⟨A',c',rfl⟩:=Q6e g1;replace S:=Hd (S.out.grow (r':=⟨.slice A' (bs.length+1) c',358,4,bs.length+1,_⟩) .head g1 g2 g3);clear g1 g2 g3;refine Ht ?_;refine Cl 11 fun K hK=>?_;refine Q0y S rfl rfl rfl rfl ?_;clear S;intro W S;refine hK.out _ _ (NoPanic.normal ?_);clear hK K;refine bodyPost_end (results_none rfl _ _ _) rfl ?_;have hl:=HB.out.1.length;have he:(bs.take (lowP m e)++[x]++bs.drop (lowP m e)).length=bs.length+1:=by have:=Z4y m e;simp;omega
  have hfl:(bs.take (lowP m e)++[x]++bs.drop (lowP m e)).flatMap Q0i=(bs.flatMap Q0i).take (lowP m e*4)++Q0i x++(bs.flatMap Q0i).drop (lowP m e*4):=by
   rw[flatMap_append,flatMap_append,Z1w Q3l,Z6w Q3l];simp
  refine ap gR ⟨rfl,rfl,.slice A' (bs.length+1) c',bs.take (lowP m e)++[x]++bs.drop (lowP m e),?_,rfl,?_⟩ S.out.pop.pop
  ·rw[X4r e HB.out.2.2.2,if_neg b1f];exact((HB.out.1.take _).append (.cons HB.out.2.1 .nil)).append (HB.out.1.drop _)
  ·rw[he,hfl];rfl
theorem nd_flat(ks:List Kf):(ks.map fun k=>(k.nb,k.cb)).flatMap Q2p=ks.flatMap Kf.nd:=by rw[List.flatMap_map];rfl
theorem nd_all{J:Gh}:∀{ks:List Kf},(∀k,k∈ks->Nm J k.nb k.e)->All2 (fun n e=>Nm J n.1 e) (ks.map fun k=>(k.nb,k.cb)) (ks.map Kf.e)
 |[],_=>.nil
 |k::ks,h=>.cons (h k (List.mem_cons_self ..)) (nd_all fun q hq=>h q (List.mem_cons_of_mem _ hq))
def DescP(J:Gh)(b x:Nat)(v1 v2:Value)(ks:List Kf)(e:PE)(i:Nat)(u:Value)(K:Gh)(L':List Blk)(R':List Rw):Prop:=K=J/\
 ((∃k,ks[i]?=some k/\k.e=e/\u=.pointer (some (ad k.cb 0))/\L'=[setBlk b v1 v2]/\R'=[kidRw v2 ks])\/
  ((∀k,ks[i]?=some k->k.e≠e)/\∃v2' y,u=pt y/\L'=[setBlk y (sn) (sn),setBlk b v1 v2']/\
   R'=[kidRw (sn) [],memRw (sn) [],kidRw v2' (ks.take i++[⟨x,y,e,.nil,[setBlk y (sn) (sn)],[memRw (sn) [],kidRw (sn) []]⟩]++ks.drop i)]))
theorem descend_s{ks:List Kf}(hb:∀k,k∈ks->Nm J k.nb k.e)(hx:Nm J x e)(hm:ks.length<2 ^ 30)(hs:Inc (ks.map Kf.e)):
  Ac 206 #[.pointer (some (ad b 1)),Q3u x] J [setBlk b v1 v2] [kidRw v2 ks] (DescP J b x v1 v2 ks e (lowP (ks.map Kf.e) e)):=by
 intro M I w W S;simp only[setBlk,kidRw]at S;obtain⟨A,c,e1⟩:=Q6e (S.out.row .head);dsimp only at e1;subst e1;have HB:=Hd (nd4 hb hx hm hs);have hle:lowP (ks.map Kf.e) e<=ks.length:=by have:=Z4y (ks.map Kf.e) e;simpa using this
 obtain⟨i,hi⟩:∃i,i=lowP (ks.map Kf.e) e:=⟨_,rfl⟩
 rw[<-hi]at hle⊢;clear hb hx hm hs;obtain⟨f,hf⟩:∃f,f=decide ((ks.map Kf.e)[i]?=some e):=⟨_,rfl⟩
 have HS:Hid (∀W,J.In W->Q2f W A (ks.flatMap Kf.nd)->Calls prog 253 #[.slice A ks.length c,Q3u x,.func (.func 254) #[] #[]] W (Got Nix J W (.tuple #[.int .i64 (i:Nat),.bool f]))):=Hd fun W hi2 hr=>by
  rw[hf,hi];exact searchNd_x J A ks.length c (ks.map fun k=>(k.nb,k.cb)) (ks.map Kf.e) _ (by rw[nd_flat];exact hr) (nd_all HB.out.1) b0f (by have:=HB.out.2.2.1;omega) HB.out.2.2.2 x e HB.out.2.1 hi2
 have HI:=Hd hi;clear hi;have HF:=Hd hf;clear hf;unfold Q3u at HS⊢;go_enter func206,ntmps206;go_wp2_with (first|refine wk ?_|refine Q1a rfl rfl rfl hcell ?_|refine Ws ?_;clear S;intro W S|refine wn ?_;clear S;intro y W S)
 refine Rg S [(b,[v1,.slice A ks.length c],.t 316),(y,L1m x,.t 358)] [] [] [0,1,2,3,4] 6 fun W S=>?_;refine Zw [6,7,8,9,10] 0 5 ?_;intro K hK;go_simp;refine(HS.out _ S.out.inw (Q2f.own (S.out.row .head))).mono ?_;rintro e' W ⟨rfl,st⟩;replace S:=Hd (S.out.call st);clear st;refine Et ?_;cases f with
 |true=>
  have hf2:(ks.map Kf.e)[i]?=some e:=of_decide_eq_true HF.out.symm;obtain⟨k,hk,hke⟩:∃k,ks[i]?=some k/\k.e=e:=by simpa using hf2
  have hlt:i<ks.length:=(List.getElem?_eq_some_iff.1 hk).1;obtain⟨gb,go,rfl,hcell⟩:=(Q2f.own (S.out.row .head)).get (Q3x Kf.nd_len hk (j:=4) rfl);have HK:=Hd (And.intro hk hke);clear hk hke hf2;go_wp2_with (first|refine wk ?_|refine Q1a rfl rfl rfl hcell ?_|refine Ws ?_;clear S;intro W S|refine wn ?_;clear S;intro y W S)
  go_ret;unfold DescP;exact ap gR ⟨rfl,.inl ⟨k,HK.out.1,HK.out.2,rfl,rfl,rfl⟩⟩ S.out.pop
 |false=>
  go_wp2_with fail
  refine Rg S [(b,[v1,.slice A ks.length c],.t 316),(y,L1m x,.t 358)] [] [14] [0,1,2,3,4,5,6,7] 7 fun W S=>?_;refine Zw [9] 5 8 ?_;intro K hK;refine Z6g S rfl rfl ?_;clear S;intro y1 W S;refine Tw [] 4 10 ?_;intro K hK;refine Q1s S rfl underlying311 rfl ?_;clear S;intro y2 W S;refine Yw [12,13] 1 11 ?_;intro K hK;go_simp;refine(insNd_x ks.length (i) _ _ _ y2 1 _ (S.out.row .head) hle HB.out.2.2.1 rfl (kf_one (ks:=[⟨x,y1,e,.nil,[],[]⟩])) kf_one (S.out.heap .head) (rowne S .head .head)).mono ?_;rintro e' W' ⟨v',rfl,g1,g2,g3⟩;obtain⟨A',c',rfl⟩:=Q6e g1;replace S:=Hd (S.out.grow (r':=⟨.slice A' (ks.length+1) c',423,5,ks.length+1,_⟩) .head g1 g2 g3);clear g1 g2 g3;refine Ht ?_;refine Cl 14 fun K hK=>?_;refine Q0y S rfl rfl rfl rfl ?_;clear S;intro W S;refine hK.out _ _ (NoPanic.normal ?_);clear hK K;obtain⟨ks',hks⟩:∃ks',ks'=ks.take i++[⟨x,y1,e,.nil,[setBlk y1 (sn) (sn)],[memRw (sn) [],kidRw (sn) []]⟩]++ks.drop i:=⟨_,rfl⟩
  have hfl:(ks.flatMap Kf.nd).take (i*5)++[(⟨x,y1,e,.nil,[],[]⟩:Kf)].flatMap Kf.nd++(ks.flatMap Kf.nd).drop (i*5)=ks'.flatMap Kf.nd:=by
   rw[hks,flatMap_append,flatMap_append,Z1w Kf.nd_len,Z6w Kf.nd_len];rfl
  have hkl:ks'.length=ks.length+1:=by rw[hks];simp;omega
  have hki:ks'[i]?=some ⟨x,y1,e,.nil,[setBlk y1 (sn) (sn)],[memRw (sn) [],kidRw (sn) []]⟩:=by rw[hks,append_assoc,List.getElem?_append_right b1r];simp[Nat.min_eq_left hle]
  rw[hfl]at S;obtain⟨gb,go,e0,hcell⟩:=(Q2f.own (S.out.row .head)).get (Q3x Kf.nd_len hki (j:=4) rfl);subst e0;have HX:=Hd (And.intro hks hkl);clear hfl hks hkl hki;go_wp2_with (first|refine wk ?_|refine Q1a rfl rfl rfl hcell ?_|refine Ws ?_;clear S;intro W S|refine wn ?_;clear S;intro y W S)
  go_ret;rw[<-HX.out.2]at S;unfold DescP;exact ap gR ⟨rfl,.inr ⟨fun k hk he=>absurd (HF.out.symm) (by simp[hk,he]),_,_,rfl,rfl,by rw[<-HX.out.1];rfl⟩⟩ ((S.out.pop.swap.pop.nilrow 358 4).nilrow 423 5)
end
section
variable{k o i:Nat}{I:Gh}
theorem Q8s{y:Nat}{k l:PE}(hx:Nm I x k)(hy:Nm I y l)(w:World)(hi:I.In w):Calls prog 217 #[Q3u x,Q3u y] w (Got Nix I w (.bool (plt k l))):=by
 unfold Q3u;refine Q0c (M:=Nix) hi ?_;intro W S;go_enter func217,ntmps217;go_wp2_with (first|refine wk ?_|refine wn ?_;clear S;intro y W S)
 refine got S (X2r hx hy) ?_;clear S;intro W S;cases hb:plt k l with
 |true=>
  have hbl:scmp k l<0:=Z3f.2 hb;go_wp2_with fail
  go_ret;exact⟨by rw[hb];rfl,S.out.step⟩
 |false=>
  have hbl:¬(scmp k l<0):=fun e=>by rw[Z3f.1 e]at hb;cases hb
  have hbd:decide (scmp k l<0)=false:=decide_eq_false hbl;go_wp2_with fail
  go_ret;exact⟨by rw[hb];rfl,S.out.step⟩
theorem Z4v{α:Type}{f:α->List Value}{k:Nat}(hk:∀x,(f x).length=k):∀(l:List α),(l.flatMap f).length=l.length*k
 |[]=>by simp
 |a::l=>by rw[flatMap_cons,length_append,hk,Z4v hk l,length_cons,Nat.succ_mul,Nat.add_comm]
variable{W:World}
theorem Q0u.rest{α:Type}{f:α->List Value}(hk:∀x,(f x).length=k){l:List α}(h:Q0u I (some (ad b o)) (l.flatMap f))(hi:I.In W)(h0:0<k):Q4n W W.heap.size k (some (ad b (o+i*k))) (l.length -i) ((l.drop i).flatMap f):=by
 have hl:((l.drop i).flatMap f).length=(l.length -i)*k:=by rw[Z4v hk,length_drop]
 have hr:Q2f W (some (ad b (o+i*k))) ((l.drop i).flatMap f):=by
  rcases h with⟨e,_⟩|⟨b',o',e,h⟩
  ·cases e
  ·injection e with e;injection e with e1 e2;subst e1;subst e2;refine .inr ⟨b,o+i*k,rfl,fun j v hv=>?_⟩;rw[<-Z1w hk,List.getElem?_drop]at hv;have:=(h _ _ hv).at hi;rwa [<-Nat.add_assoc]at this
 exact hr.reads hl h0
theorem Q0u.peC{A:OA}{bs:List Nat}(h:Q0u I A (bs.flatMap Q0i))(hx:bs[i]?=some x):∃b o,A=some (ad b o)/\∀(j:Nat) u,(Q0i x)[j]?=some u->I.cell (ad b (o+i*4+j)) u:=by
 have g:∀j v,(Q0i x)[j]?=some v->(bs.flatMap Q0i)[i*4+j]?=some v:=fun j v hv=>Q3x (fun x=>Q3l x) hx hv;rcases h with⟨_,e⟩|⟨b,o,e,h⟩
 ·exact e1f
 ·exact⟨b,o,e,fun j v hv=>by rw[Nat.add_assoc];exact h _ _ (g j v hv)⟩
theorem Q0u.restN{α:Type}{f:α->List Value}(hk:∀x,(f x).length=k){n:Nat}{l:List α}(h:Q0u I (some (ad b o)) (l.flatMap f))(hi:I.In W)(h0:0<k)(hn:l.length=n):Q4n W W.heap.size k (some (ad b (o+i*k))) (n -i) ((l.drop i).flatMap f):=hn▸h.rest hk hi h0
theorem Z5d(l:List PE):Q3i [] l=l:=by unfold Q3i;rfl
theorem Z5u(l:List PE):Q3i l []=l:=by cases l<;>(unfold Q3i;rfl)
theorem interL_nl(l:List PE):Q3o [] l=[]:=by unfold Q3o;rfl
theorem interL_nr(l:List PE):Q3o l []=[]:=by cases l<;>(unfold Q3o;rfl)
theorem X8k(l:List PE):Q5l [] l=[]:=by unfold Q5l;rfl
theorem X8a(l:List PE):Q5l l []=l:=by cases l<;>(unfold Q5l;rfl)
theorem Q2t{α:Type}{l:List α}{x:α}(h:l[i]?=some x):l.drop i=x::l.drop (i+1):=by
 obtain⟨h1,h2⟩:=List.getElem?_eq_some_iff.1 h;rw[<-h2];exact List.drop_eq_getElem_cons h1
theorem Q1e{α β:Type}{P:α->β->Prop}:∀{l:List α} {m:List β} {x:α} {y:β},All2 P l m->P x y->All2 P (l++[x]) (m++[y])
 |_,_,x,y,.nil,h=>.cons h .nil
 |_,_,x,y,.cons a b,h=>.cons a (Q1e b h)
theorem Q9j{α β:Type}{P:α->β->Prop}:∀(i:Nat) {l:List α} {m:List β},All2 P l m->All2 P (l.drop i) (m.drop i)
 |0,_,_,h=>h
 |i+1,_,_,.nil=>by simpa using All2.nil
 |i+1,_,_,.cons a b=>by simpa using Q9j i b
theorem Q8j{α β:Type}{P:α->β->Prop}:∀{l l':List α} {m m':List β},All2 P l m->All2 P l' m'->All2 P (l++l') (m++m')
 |_,_,_,_,.nil,h=>h
 |_,_,_,_,.cons a b,h=>.cons a (Q8j b h)
theorem interL_x(I:Gh)(sb sq tb tq:Nat)(m m':List PE)(hs:Z3c I sb sq m)(ht:Z3c I tb tq m')(hl:m.length+m'.length<=2 ^ 30):
  Ac 213 #[.pointer (some (ad sb sq)),.pointer (some (ad tb tq))] I [] []<|N0 fun u K=>∃b:Nat,u=pt b/\Z3c K b 0 (Q3o m m'):=by
 obtain⟨aA,cA,bsA,hA,hcA,hcA2,hbA,hfA⟩:=hs;obtain⟨aB,cB,bsB,hB,hcB,hcB2,hbB,hfB⟩:=ht;have HB:=Hd (nd4 hbA hbB hfA hfB);clear hbA hbB hfA hfB;intro M I0 w W S;go_enter func213,ntmps213;go_wp2_with (first|refine wk ?_|refine Ws ?_;clear S;intro W S|refine wn ?_;clear S;intro y W S)
 obtain⟨bo,hbo⟩:∃bo,bo=y:=⟨_,rfl⟩
 subst hbo;replace S:=Hd (S.out.nilrow 358 4);go_loopg [6,7] (m.length+m'.length) (fun g s6 s7 wr=>∃(i j:Nat) (acc:List PE) (obs:List Nat) (A:OA) (c:Nat),s6=.int .i64 (i:Nat)/\s7=.int .i64 (j:Nat)/\i<=m.length/\j<=m'.length/\g=(m.length -i)+(m'.length -j)/\acc.length<=i+j/\Hid (St M I0 I w wr [(bo,[.slice A acc.length c],.t 310)] [⟨.slice A acc.length c,358,4,acc.length,obs.flatMap Q0i⟩])/\Hid (All2 (Nm I) obs acc)/\Hid (acc++Q3o (m.drop i) (m'.drop j)=Q3o m m'))
 case atStart=>exact⟨0,0,[],[],_,_,rfl,rfl,Nat.zero_le _,Nat.zero_le _,rfl,Nat.le_refl _,S,Hd .nil,Hd b0f⟩
 case round=>
  clear S;obtain⟨i,j,acc,obs,A,c,rfl,rfl,hi1,hj1,hg,hal,S,HO,HP⟩:=hrel;by_cases h1:i<m.length
  ·obtain⟨p,hp⟩:∃p,m[i]?=some p:=gx h1;obtain⟨x,hx⟩:∃x,bsA[i]?=some x:=gx b1j;obtain⟨b1,o1,rfl,hX⟩:=HB.out.2.2.1.peC hx;have HX1:=Hd (Q2t hp);have hd1:(decide ((i:Int)<(m.length:Int)))=true:=by simp;omega
   by_cases h2:j<m'.length
   ·obtain⟨q,hq⟩:∃q,m'[j]?=some q:=gx h2;obtain⟨y,hy⟩:∃y,bsB[j]?=some y:=gx b1b;obtain⟨b2,o2,rfl,hY⟩:=HB.out.2.2.2.peC hy;have HX2:=Hd (Q2t hq);have HN:=Hd (And.intro (HB.out.1.get hx hp) (HB.out.2.1.get hy hq));have hd2:(decide ((j:Int)<(m'.length:Int)))=true:=by simp;omega
    clear hp hx hq hy;go_wp2_with (first|refine wk ?_|refine Ws ?_;clear S;intro W S|refine wn ?_;clear S;intro y W S)
    refine Rg S [] [] [] [0,1,2,3,4,5,6,7,8,9,10,11,12,13] 1 fun W S=>?_;refine tk11 ?_;refine Wr [] 0 14 fun K hK=>?_;go_simp;refine got S (Q8s HN.out.1 HN.out.2) ?_;clear S;intro W S;refine Ey ?_;obtain⟨ab,hab⟩:∃ab,ab=plt p q:=⟨_,rfl⟩
    rw[<-hab];have HAB:=Hd hab.symm;clear hab;cases ab with
    |true=>
     go_wp2_with (first|refine wk ?_|refine Ws ?_;clear S;intro W S|refine wn ?_;clear S;intro y W S)
     go_roundg ((m.length -(i+1))+(m'.length -(j)))
     case measure=>omega
     case rel=>exact⟨i+1,j,acc,obs,A,c,rfl,rfl,by omega,by omega,rfl,by(try simp only[length_append,length_cons,length_nil]);omega,(S),HO.out,Hd (by have:=HP.out;rw[HX1.out,HX2.out,Q3o]at this;(try rw[HX1.out]);(try rw[HX2.out]);simp only[HAB.out,Bool.false_eq_true,if_true,if_false]at this;rw[<-this];(try simp only[append_assoc,cons_append,nil_append]))⟩
    |false=>
     go_wp2_with (first|refine wk ?_|refine Ws ?_;clear S;intro W S|refine wn ?_;clear S;intro y W S)
     refine Rg S [] [] [] [0,1,2,3,4,5,6,7,8,9,10,11,12,13] 2 fun W S=>?_;refine tk11 ?_;refine Wr [15] 0 14 fun K hK=>?_;go_simp;refine got S (Q8s HN.out.2 HN.out.1) ?_;clear S;intro W S;refine Hk ?_;refine tk11 ?_;refine En ?_;obtain⟨ba,hba⟩:∃ba,ba=plt q p:=⟨_,rfl⟩
     rw[<-hba];have HBA:=Hd hba.symm;clear hba;cases ba with
     |true=>
      go_wp2_with (first|refine wk ?_|refine Ws ?_;clear S;intro W S|refine wn ?_;clear S;intro y W S)
      go_roundg ((m.length -(i))+(m'.length -(j+1)))
      case measure=>omega
      case rel=>exact⟨i,j+1,acc,obs,A,c,rfl,rfl,by omega,by omega,rfl,by(try simp only[length_append,length_cons,length_nil]);omega,(S),HO.out,Hd b0y⟩
     |false=>
      go_wp2_with (first|refine wk ?_|refine Ws ?_;clear S;intro W S|refine wn ?_;clear S;intro y W S)
      refine Rg S [(bo,[.slice A acc.length c],.t 310)] [] [16] [0,1,2,3,4,5,6,7,8,9,10,11] 5 fun W S=>?_;refine tk11 ?_;refine Wr [] 4 12 fun K hK=>?_;refine Q1s S rfl underlying308 rfl ?_;clear S;intro y1 W S;refine Yw [14,15] 1 13 ?_;intro K hK;refine Q1m S rfl rfl rfl underlying308 Q4v rfl om ?_;clear S;intro A1 c1 W S;refine Hk ?_;refine tk11 ?_;refine Cl 16 fun K hK=>?_;refine Q0j (v:=.slice A1 (acc.length+1) c1) S rfl rfl rfl rfl ?_;clear S;intro W S;refine hK.out _ _ (NoPanic.normal ?_);clear hK K;go_wp2_with (first|refine wk ?_|refine Ws ?_;clear S;intro W S|refine wn ?_;clear S;intro y W S)
      go_roundg ((m.length -(i+1))+(m'.length -(j+1)))
      case measure=>omega
      case rel=>exact⟨i+1,j+1,acc++[p],obs++[x],_,_,rfl,rfl,by omega,by omega,rfl,by(try simp only[length_append,length_cons,length_nil]);omega,b0g,Q1e HO.out HN.out.1,Hd b0y⟩
   ·have hj2:j=m'.length:=by omega
    subst hj2;go_wp2_with (first|refine wk ?_|refine Ws ?_;clear S;intro W S|refine wn ?_;clear S;intro y W S)
    exact e0x
  ·have hi2:i=m.length:=by omega
   subst hi2;go_wp2_with (first|refine wk ?_|refine Ws ?_;clear S;intro W S|refine wn ?_;clear S;intro y W S)
   exact e0x
theorem z1h{P:Prop}(h:P:=by
 refine ap (gT l1 l2) ⟨rfl,rfl,bo,rfl,_,_,obs++bsA.drop i,⟨_,_,_,e2,rfl,by rw[<-hlen];rfl⟩,by rw[<-hlen];exact g1,g2,?_,?_⟩ S2
 ·rw[<-e];exact(Q8j HO.out (Q9j i HB.out.1)).imp fun _ _ k=>k.mono (gT l1 l2)
 ·rw[List.flatMap_append];exact f1.mono l2):P:=h
theorem unionL_x(I:Gh)(sb sq tb tq:Nat)(m m':List PE)(hs:Z3c I sb sq m)(ht:Z3c I tb tq m')(hl:m.length+m'.length<=2 ^ 30):
  Ac 158 #[.pointer (some (ad sb sq)),.pointer (some (ad tb tq))] I [] []<|N0 fun u K=>∃b:Nat,u=pt b/\Z3c K b 0 (Q3i m m'):=by
 obtain⟨aA,cA,bsA,hA,hcA,hcA2,hbA,hfA⟩:=hs;obtain⟨aB,cB,bsB,hB,hcB,hcB2,hbB,hfB⟩:=ht;have HB:=Hd (nd4 hbA hbB hfA hfB);clear hbA hbB hfA hfB;intro M I0 w W S;go_enter func158,ntmps158;go_wp2_with (first|refine wk ?_|refine Ws ?_;clear S;intro W S|refine wn ?_;clear S;intro y W S)
 obtain⟨bo,hbo⟩:∃bo,bo=y:=⟨_,rfl⟩
 subst hbo;replace S:=Hd (S.out.nilrow 358 4);go_loopg [6,7] (m.length+m'.length) (fun g s6 s7 wr=>∃(i j:Nat) (acc:List PE) (obs:List Nat) (A:OA) (c:Nat),s6=.int .i64 (i:Nat)/\s7=.int .i64 (j:Nat)/\i<=m.length/\j<=m'.length/\g=(m.length -i)+(m'.length -j)/\acc.length<=i+j/\Hid (St M I0 I w wr [(bo,[.slice A acc.length c],.t 310)] [⟨.slice A acc.length c,358,4,acc.length,obs.flatMap Q0i⟩])/\Hid (All2 (Nm I) obs acc)/\Hid (acc++Q3i (m.drop i) (m'.drop j)=Q3i m m'))
 case atStart=>exact⟨0,0,[],[],_,_,rfl,rfl,Nat.zero_le _,Nat.zero_le _,rfl,Nat.le_refl _,S,Hd .nil,Hd b0f⟩
 case round=>
  clear S;obtain⟨i,j,acc,obs,A,c,rfl,rfl,hi1,hj1,hg,hal,S,HO,HP⟩:=hrel;by_cases h1:i<m.length
  ·obtain⟨p,hp⟩:∃p,m[i]?=some p:=gx h1;obtain⟨x,hx⟩:∃x,bsA[i]?=some x:=gx b1j;obtain⟨b1,o1,rfl,hX⟩:=HB.out.2.2.1.peC hx;have HX1:=Hd (Q2t hp);have hd1:(decide ((i:Int)<(m.length:Int)))=true:=by simp;omega
   by_cases h2:j<m'.length
   ·obtain⟨q,hq⟩:∃q,m'[j]?=some q:=gx h2;obtain⟨y,hy⟩:∃y,bsB[j]?=some y:=gx b1b;obtain⟨b2,o2,rfl,hY⟩:=HB.out.2.2.2.peC hy;have HX2:=Hd (Q2t hq);have HN:=Hd (And.intro (HB.out.1.get hx hp) (HB.out.2.1.get hy hq));have hd2:(decide ((j:Int)<(m'.length:Int)))=true:=by simp;omega
    clear hp hx hq hy;go_wp2_with (first|refine wk ?_|refine Ws ?_;clear S;intro W S|refine wn ?_;clear S;intro y W S)
    refine Rg S [] [] [] [0,1,2,3,4,5,6,7,8,9,10,11,12,13] 1 fun W S=>?_;refine tk11 ?_;refine Wr [] 0 14 fun K hK=>?_;go_simp;refine got S (Q8s HN.out.1 HN.out.2) ?_;clear S;intro W S;refine Ey ?_;obtain⟨ab,hab⟩:∃ab,ab=plt p q:=⟨_,rfl⟩
    rw[<-hab];have HAB:=Hd hab.symm;clear hab;cases ab with
    |true=>
     go_wp2_with (first|refine wk ?_|refine Ws ?_;clear S;intro W S|refine wn ?_;clear S;intro y W S)
     refine Rg S [(bo,[.slice A acc.length c],.t 310)] [] [16] [0,1,2,3,4,5,6,7,8,9,10,11] 5 fun W S=>?_;refine tk11 ?_;refine Wr [] 4 12 fun K hK=>?_;refine Q1s S rfl underlying308 rfl ?_;clear S;intro y1 W S;refine Yw [14,15] 1 13 ?_;intro K hK;refine Q1m S rfl rfl rfl underlying308 Q4v rfl om ?_;clear S;intro A1 c1 W S;refine Hk ?_;refine tk11 ?_;refine Cl 16 fun K hK=>?_;refine Q0j (v:=.slice A1 (acc.length+1) c1) S rfl rfl rfl rfl ?_;clear S;intro W S;refine hK.out _ _ (NoPanic.normal ?_);clear hK K;go_wp2_with (first|refine wk ?_|refine Ws ?_;clear S;intro W S|refine wn ?_;clear S;intro y W S)
     go_roundg ((m.length -(i+1))+(m'.length -(j)))
     case measure=>omega
     case rel=>exact⟨i+1,j,acc++[p],obs++[x],_,_,rfl,rfl,by omega,by omega,rfl,by(try simp only[length_append,length_cons,length_nil]);omega,b0g,Q1e HO.out HN.out.1,Hd (by have:=HP.out;rw[HX1.out,HX2.out,Q3i]at this;(try rw[HX1.out]);(try rw[HX2.out]);simp only[HAB.out,Bool.false_eq_true,if_true,if_false]at this;rw[<-this];(try simp only[append_assoc,cons_append,nil_append]))⟩
    |false=>
     go_wp2_with (first|refine wk ?_|refine Ws ?_;clear S;intro W S|refine wn ?_;clear S;intro y W S)
     refine Rg S [(bo,[.slice A acc.length c],.t 310)] [] [16] [0,1,2,3,4,5,6,7,8,9,10,11] 5 fun W S=>?_;refine tk11 ?_;refine Wr [] 4 12 fun K hK=>?_;refine Q1s S rfl underlying308 rfl ?_;clear S;intro y1 W S;refine Yw [14,15] 1 13 ?_;intro K hK;refine Q1m S rfl rfl rfl underlying308 Q4v rfl om ?_;clear S;intro A1 c1 W S;refine Hk ?_;refine tk11 ?_;refine Cl 16 fun K hK=>?_;refine Q0j (v:=.slice A1 (acc.length+1) c1) S rfl rfl rfl rfl ?_;clear S;intro W S;refine hK.out _ _ (NoPanic.normal ?_);clear hK K;go_wp2_with (first|refine wk ?_|refine Ws ?_;clear S;intro W S|refine wn ?_;clear S;intro y W S)
     refine Rg S [] [] [] [0,1,2,3,4,5,6,7,8,9,10,11,12,13] 2 fun W S=>?_;refine tk11 ?_;refine Wr [15] 0 14 fun K hK=>?_;go_simp;refine got S (Q8s HN.out.2 HN.out.1) ?_;clear S;intro W S;refine Hk ?_;refine tk11 ?_;refine En ?_;obtain⟨ba,hba⟩:∃ba,ba=plt q p:=⟨_,rfl⟩
     rw[<-hba];have HBA:=Hd hba.symm;clear hba;cases ba with
     |true=>
      go_wp2_with (first|refine wk ?_|refine Ws ?_;clear S;intro W S|refine wn ?_;clear S;intro y W S)
      go_roundg ((m.length -(i))+(m'.length -(j+1)))
      case measure=>omega
      case rel=>exact⟨i,j+1,acc++[q],obs++[y],_,_,rfl,rfl,by omega,by omega,rfl,by(try simp only[length_append,length_cons,length_nil]);omega,b0g,Q1e HO.out HN.out.2,Hd b0x⟩
     |false=>
      go_wp2_with (first|refine wk ?_|refine Ws ?_;clear S;intro W S|refine wn ?_;clear S;intro y W S)
      go_roundg ((m.length -(i+1))+(m'.length -(j+1)))
      case measure=>omega
      case rel=>exact⟨i+1,j+1,acc++[q],obs++[y],_,_,rfl,rfl,by omega,by omega,rfl,by(try simp only[length_append,length_cons,length_nil]);omega,b0g,Q1e HO.out HN.out.2,Hd b0x⟩
   ·have hj2:j=m'.length:=by omega
    subst hj2;have hci:¬cA=i:=by omega
    go_wp2_with (first|refine wk ?_|refine Ws ?_;clear S;intro W S|refine wn ?_;clear S;intro y W S)
    refine Rg S [(bo,[.slice A acc.length c],.t 310)] [] [14] [0,1,2,3,4,5,6,7,8,9,10] 4 fun W S=>?_;refine tk11 ?_;refine Wr [12,13] 1 11 fun K hK=>?_;refine Z0t S rfl rfl rfl underlying308 Q4v (Q0u.restN Q3l (l:=bsA) (i:=i) HB.out.2.2.1 S.out.inw b0t HB.out.1.length) Z7k om ?_;clear S;intro A1 c1 W S;refine Hk ?_;refine tk11 ?_;refine Cl 14 fun K hK=>?_;refine Q0j (v:=.slice A1 (acc.length+(m.length -i)) c1) S rfl rfl rfl rfl ?_;clear S;intro W S;refine hK.out _ _ (NoPanic.normal ?_);clear hK K;go_wp2_with (first|refine wk ?_|refine Ws ?_;clear S;intro W S|refine wn ?_;clear S;intro y W S)
    go_ret;obtain⟨K1,a1,c1',l1,e1,g1,g2,f1,S1⟩:=S.out.rfreeze;simp only at e1;cases e1;obtain⟨K2,l2,e2,S2⟩:=S1.freeze;have e:=HP.out;simp only[List.drop_length,Z5u,Z5d,append_nil]at e;have hlen:(acc.length+(m.length -i))=(Q3i m m').length:=by rw[<-e];simp only[length_append,length_drop]
    exact z1h
  ·have hi2:i=m.length:=by omega
   subst hi2;by_cases h2:j<m'.length
   ·obtain⟨q,hq⟩:∃q,m'[j]?=some q:=gx h2;obtain⟨y,hy⟩:∃y,bsB[j]?=some y:=gx b1b;obtain⟨b2,o2,rfl,hY⟩:=HB.out.2.2.2.peC hy;have HX2:=Hd (Q2t hq);have hd2:(decide ((j:Int)<(m'.length:Int)))=true:=by simp;omega
    clear hq hy;have hci:¬cB=j:=by omega
    go_wp2_with (first|refine wk ?_|refine Ws ?_;clear S;intro W S|refine wn ?_;clear S;intro y W S)
    refine Rg S [(bo,[.slice A acc.length c],.t 310)] [] [14] [0,1,2,3,4,5,6,7,8,9,10] 4 fun W S=>?_;refine tk11 ?_;refine Wr [12,13] 1 11 fun K hK=>?_;refine Z0t S rfl rfl rfl underlying308 Q4v (Q0u.restN Q3l (l:=bsB) (i:=j) HB.out.2.2.2 S.out.inw b0t HB.out.2.1.length) Z7k om ?_;clear S;intro A1 c1 W S;refine Hk ?_;refine tk11 ?_;refine Cl 14 fun K hK=>?_;refine Q0j (v:=.slice A1 (acc.length+(m'.length -j)) c1) S rfl rfl rfl rfl ?_;clear S;intro W S;refine hK.out _ _ (NoPanic.normal ?_);clear hK K;go_wp2_with (first|refine wk ?_|refine Ws ?_;clear S;intro W S|refine wn ?_;clear S;intro y W S)
    go_ret;obtain⟨K1,a1,c1',l1,e1,g1,g2,f1,S1⟩:=S.out.rfreeze;simp only at e1;cases e1;obtain⟨K2,l2,e2,S2⟩:=S1.freeze;have e:=HP.out;simp only[List.drop_length,Z5u,Z5d,append_nil]at e;have hlen:(acc.length+(m'.length -j))=(Q3i m m').length:=by rw[<-e];simp only[length_append,length_drop]
    refine ap (gT l1 l2) ⟨rfl,rfl,bo,rfl,_,_,obs++bsB.drop j,⟨_,_,_,e2,rfl,by rw[<-hlen];rfl⟩,by rw[<-hlen];exact g1,g2,?_,?_⟩ S2
    ·rw[<-e];exact(Q8j HO.out (Q9j j HB.out.2.1)).imp fun _ _ k=>k.mono (gT l1 l2)
    ·rw[flatMap_append];exact f1.mono l2
   ·have hj2:j=m'.length:=by omega
    subst hj2;go_wp2_with (first|refine wk ?_|refine Ws ?_;clear S;intro W S|refine wn ?_;clear S;intro y W S)
    go_ret;obtain⟨K1,a1,c1',l1,e1,g1,g2,f1,S1⟩:=S.out.rfreeze;simp only at e1;cases e1;obtain⟨K2,l2,e2,S2⟩:=S1.freeze;have e:=HP.out;simp only[List.drop_length,Z5u,Z5d,append_nil]at e;exact e0f
theorem diffL_x(I:Gh)(sb sq tb tq:Nat)(m m':List PE)(hs:Z3c I sb sq m)(ht:Z3c I tb tq m')(hl:m.length+m'.length<=2 ^ 30):
  Ac 156 #[.pointer (some (ad sb sq)),.pointer (some (ad tb tq))] I [] []<|N0 fun u K=>∃b:Nat,u=pt b/\Z3c K b 0 (Q5l m m'):=by
 obtain⟨aA,cA,bsA,hA,hcA,hcA2,hbA,hfA⟩:=hs;obtain⟨aB,cB,bsB,hB,hcB,hcB2,hbB,hfB⟩:=ht;have HB:=Hd (nd4 hbA hbB hfA hfB);clear hbA hbB hfA hfB;intro M I0 w W S;go_enter func156,ntmps156;go_wp2_with (first|refine wk ?_|refine Ws ?_;clear S;intro W S|refine wn ?_;clear S;intro y W S)
 obtain⟨bo,hbo⟩:∃bo,bo=y:=⟨_,rfl⟩
 subst hbo;replace S:=Hd (S.out.nilrow 358 4);go_loopg [6,7] (m.length+m'.length) (fun g s6 s7 wr=>∃(i j:Nat) (acc:List PE) (obs:List Nat) (A:OA) (c:Nat),s6=.int .i64 (i:Nat)/\s7=.int .i64 (j:Nat)/\i<=m.length/\j<=m'.length/\g=(m.length -i)+(m'.length -j)/\acc.length<=i+j/\Hid (St M I0 I w wr [(bo,[.slice A acc.length c],.t 310)] [⟨.slice A acc.length c,358,4,acc.length,obs.flatMap Q0i⟩])/\Hid (All2 (Nm I) obs acc)/\Hid (acc++Q5l (m.drop i) (m'.drop j)=Q5l m m'))
 case atStart=>exact⟨0,0,[],[],_,_,rfl,rfl,Nat.zero_le _,Nat.zero_le _,rfl,Nat.le_refl _,S,Hd .nil,Hd b0f⟩
 case round=>
  clear S;obtain⟨i,j,acc,obs,A,c,rfl,rfl,hi1,hj1,hg,hal,S,HO,HP⟩:=hrel;by_cases h1:i<m.length
  ·obtain⟨p,hp⟩:∃p,m[i]?=some p:=gx h1;obtain⟨x,hx⟩:∃x,bsA[i]?=some x:=gx b1j;obtain⟨b1,o1,rfl,hX⟩:=HB.out.2.2.1.peC hx;have HX1:=Hd (Q2t hp);have hd1:(decide ((i:Int)<(m.length:Int)))=true:=by simp;omega
   by_cases h2:j<m'.length
   ·obtain⟨q,hq⟩:∃q,m'[j]?=some q:=gx h2;obtain⟨y,hy⟩:∃y,bsB[j]?=some y:=gx b1b;obtain⟨b2,o2,rfl,hY⟩:=HB.out.2.2.2.peC hy;have HX2:=Hd (Q2t hq);have HN:=Hd (And.intro (HB.out.1.get hx hp) (HB.out.2.1.get hy hq));have hd2:(decide ((j:Int)<(m'.length:Int)))=true:=by simp;omega
    clear hp hx hq hy;go_wp2_with (first|refine wk ?_|refine Ws ?_;clear S;intro W S|refine wn ?_;clear S;intro y W S)
    refine Rg S [] [] [] [0,1,2,3,4,5,6,7,8,9,10,11,12,13] 1 fun W S=>?_;refine tk11 ?_;refine Wr [] 0 14 fun K hK=>?_;go_simp;refine got S (Q8s HN.out.1 HN.out.2) ?_;clear S;intro W S;refine Ey ?_;obtain⟨ab,hab⟩:∃ab,ab=plt p q:=⟨_,rfl⟩
    rw[<-hab];have HAB:=Hd hab.symm;clear hab;cases ab with
    |true=>
     go_wp2_with (first|refine wk ?_|refine Ws ?_;clear S;intro W S|refine wn ?_;clear S;intro y W S)
     refine Rg S [(bo,[.slice A acc.length c],.t 310)] [] [16] [0,1,2,3,4,5,6,7,8,9,10,11] 5 fun W S=>?_;refine tk11 ?_;refine Wr [] 4 12 fun K hK=>?_;refine Q1s S rfl underlying308 rfl ?_;clear S;intro y1 W S;refine Yw [14,15] 1 13 ?_;intro K hK;refine Q1m S rfl rfl rfl underlying308 Q4v rfl om ?_;clear S;intro A1 c1 W S;refine Hk ?_;refine tk11 ?_;refine Cl 16 fun K hK=>?_;refine Q0j (v:=.slice A1 (acc.length+1) c1) S rfl rfl rfl rfl ?_;clear S;intro W S;refine hK.out _ _ (NoPanic.normal ?_);clear hK K;go_wp2_with (first|refine wk ?_|refine Ws ?_;clear S;intro W S|refine wn ?_;clear S;intro y W S)
     go_roundg ((m.length -(i+1))+(m'.length -(j)))
     case measure=>omega
     case rel=>exact⟨i+1,j,acc++[p],obs++[x],_,_,rfl,rfl,by omega,by omega,rfl,by(try simp only[length_append,length_cons,length_nil]);omega,b0g,Q1e HO.out HN.out.1,Hd (by have:=HP.out;rw[HX1.out,HX2.out,Q5l]at this;(try rw[HX1.out]);(try rw[HX2.out]);simp only[HAB.out,Bool.false_eq_true,if_true,if_false]at this;rw[<-this];(try simp only[append_assoc,cons_append,nil_append]))⟩
    |false=>
     go_wp2_with (first|refine wk ?_|refine Ws ?_;clear S;intro W S|refine wn ?_;clear S;intro y W S)
     refine Rg S [] [] [] [0,1,2,3,4,5,6,7,8,9,10,11,12,13] 2 fun W S=>?_;refine tk11 ?_;refine Wr [15] 0 14 fun K hK=>?_;go_simp;refine got S (Q8s HN.out.2 HN.out.1) ?_;clear S;intro W S;refine Hk ?_;refine tk11 ?_;refine En ?_;obtain⟨ba,hba⟩:∃ba,ba=plt q p:=⟨_,rfl⟩
     rw[<-hba];have HBA:=Hd hba.symm;clear hba;cases ba with
     |true=>
      go_wp2_with (first|refine wk ?_|refine Ws ?_;clear S;intro W S|refine wn ?_;clear S;intro y W S)
      go_roundg ((m.length -(i))+(m'.length -(j+1)))
      case measure=>omega
      case rel=>exact⟨i,j+1,acc,obs,A,c,rfl,rfl,by omega,by omega,rfl,by(try simp only[length_append,length_cons,length_nil]);omega,(S),HO.out,Hd b0z⟩
     |false=>
      go_wp2_with (first|refine wk ?_|refine Ws ?_;clear S;intro W S|refine wn ?_;clear S;intro y W S)
      go_roundg ((m.length -(i+1))+(m'.length -(j+1)))
      case measure=>omega
      case rel=>exact⟨i+1,j+1,acc,obs,A,c,rfl,rfl,by omega,by omega,rfl,by(try simp only[length_append,length_cons,length_nil]);omega,(S),HO.out,Hd b0z⟩
   ·have hj2:j=m'.length:=by omega
    subst hj2;have hci:¬cA=i:=by omega
    go_wp2_with (first|refine wk ?_|refine Ws ?_;clear S;intro W S|refine wn ?_;clear S;intro y W S)
    refine Rg S [(bo,[.slice A acc.length c],.t 310)] [] [14] [0,1,2,3,4,5,6,7,8,9,10] 4 fun W S=>?_;refine tk11 ?_;refine Wr [12,13] 1 11 fun K hK=>?_;refine Z0t S rfl rfl rfl underlying308 Q4v (Q0u.restN Q3l (l:=bsA) (i:=i) HB.out.2.2.1 S.out.inw b0t HB.out.1.length) Z7k om ?_;clear S;intro A1 c1 W S;refine Hk ?_;refine tk11 ?_;refine Cl 14 fun K hK=>?_;refine Q0j (v:=.slice A1 (acc.length+(m.length -i)) c1) S rfl rfl rfl rfl ?_;clear S;intro W S;refine hK.out _ _ (NoPanic.normal ?_);clear hK K;go_wp2_with (first|refine wk ?_|refine Ws ?_;clear S;intro W S|refine wn ?_;clear S;intro y W S)
    go_ret;obtain⟨K1,a1,c1',l1,e1,g1,g2,f1,S1⟩:=S.out.rfreeze;simp only at e1;cases e1;obtain⟨K2,l2,e2,S2⟩:=S1.freeze;have e:=HP.out;simp only[List.drop_length,X8a,X8k,append_nil]at e;have hlen:(acc.length+(m.length -i))=(Q5l m m').length:=by rw[<-e];simp only[length_append,length_drop]
    exact z1h
  ·have hi2:i=m.length:=by omega
   subst hi2;go_wp2_with (first|refine wk ?_|refine Ws ?_;clear S;intro W S|refine wn ?_;clear S;intro y W S)
   go_ret;obtain⟨K1,a1,c1',l1,e1,g1,g2,f1,S1⟩:=S.out.rfreeze;simp only at e1;cases e1;obtain⟨K2,l2,e2,S2⟩:=S1.freeze;have e:=HP.out;simp only[List.drop_length,X8a,X8k,append_nil]at e;exact e0f
end
section
variable{R:List Rw}{L:List Blk}{c:List (PE×FS)}{m:List PE}
theorem FO.inv(h:FO J b (.mk m c) L R):∃v1 v2 bs ks,All2 (Nm J) bs m/\(∀k,k∈ks->Nm J k.nb k.e)/\(∀k,k∈ks->FO J k.cb k.s k.L k.R)/\c=ks.map Kf.p/\
  L.Perm (setBlk b v1 v2::ks.flatMap Kf.L)/\R.Perm (memRw v1 bs::kidRw v2 ks::ks.flatMap Kf.R):=by
 cases h with
 |mk _ v1 v2 _ bs ks _ _ _ hb hn hk hc hL hR=>exact⟨v1,v2,bs,ks,hb,hn,hk,hc,hL,hR⟩
theorem X3v(ks:List Kf):(ks.map Kf.p).map (·.1)=ks.map Kf.e:=by rw[List.map_map];rfl
variable{ks:List Kf}
theorem kid_at(hs:Inc (ks.map Kf.e)){i:Nat}{k:Kf}(hk:ks[i]?=some k):kid (ks.map Kf.p) k.e=some k.s:=
 kid_of (by rw[X3v];exact hs) (List.mem_map.2 ⟨k,List.mem_of_getElem? hk,rfl⟩)
theorem kid_not(hs:Inc (ks.map Kf.e))(h:∀k,ks[lowP (ks.map Kf.e) e]?=some k->k.e≠e):kid (ks.map Kf.p) e=none:=by
 refine X7j fun x hx he=>?_;rw[X3v]at hx;subst he;obtain⟨j,hj⟩:=List.getElem?_of_mem hx;have h1:¬j<lowP (ks.map Kf.e) x:=fun hlt=>by have:=(Z5y hs hj).1 hlt;rw[Q8a]at this;cases this
 have hjl:=(List.getElem?_eq_some_iff.1 hj).1;rcases Nat.lt_or_ge (lowP (ks.map Kf.e) x) j with h2|h2
 ·have hg:(ks.map Kf.e)[lowP (ks.map Kf.e) x]?=some ((ks.map Kf.e)[lowP (ks.map Kf.e) x]'om):=List.getElem?_eq_getElem om;have:=Z2o hs h2 hg hj;have:=(Z5y hs hg).2 this;omega
 ·have e:lowP (ks.map Kf.e) x=j:=by omega
  rw[e]at h;rw[List.getElem?_map]at hj;cases hq:ks[j]? with
  |none=>rw[hq]at hj;cases hj
  |some k=>rw[hq]at hj;exact h k hq (Option.some.inj hj)
theorem insertF_s(hF:FO J b (.mk m c) L R)(hx:Nm J x e)(hs:Inc m)(hm:m.length<2 ^ 30):
  Ac 205 #[pt b,Q3u x] J L R fun u K L' R'=>u=.tuple #[]/\K=J/\FO J b (.mk (insL m e) c) L' R':=by
 obtain⟨v1,v2,bs,ks,hb,hn,hk,rfl,hL,hR⟩:=hF.inv;intro M I w W S;have S1:Hid (St M I J w W (setBlk b v1 v2::ks.flatMap Kf.L) (memRw v1 bs::(kidRw v2 ks::ks.flatMap Kf.R))):=Hd (S.out.perm hL.symm hR.symm);refine Q0a S1 (insertPe_s (b:=b) (v1:=v1) (v2:=v2) hb hx hm hs) ?_;rintro r K L' R' W' hle ⟨rfl,rfl,v1',bs',hb',rfl,rfl⟩ S2;exact ap hle ⟨rfl,rfl,.mk b v1' v2 _ bs' ks _ _ _ hb' hn hk rfl (List.Perm.refl _) (List.Perm.refl _)⟩ S2.out
theorem descendF_s(hF:FO J b (.mk m c) L R)(hx:Nm J x e)(hs:Inc (c.map (·.1)))(hm:c.length<2 ^ 30):
  Ac 206 #[.pointer (some (ad b 1)),Q3u x] J L R fun u K L' R'=>K=J/\∃cb L1 R1 Lc Rc,u=pt cb/\FO J cb ((kid c e).getD .nil) L1 R1/\L'=L1++Lc/\R'=R1++Rc/\
   ∀s' L2 R2,FO J cb s' L2 R2->FO J b (.mk m (setC c e fun _=>s')) (L2++Lc) (R2++Rc):=by
 obtain⟨v1,v2,bs,ks,hb,hn,hk,rfl,hL,hR⟩:=hF.inv;rw[X3v]at hs;rw[List.length_map]at hm;intro M I w W S;have S1:Hid (St M I J w W (setBlk b v1 v2::ks.flatMap Kf.L) (memRw v1 bs::(kidRw v2 ks::ks.flatMap Kf.R))):=Hd (S.out.perm hL.symm hR.symm);refine Q0a S1 (descend_s (b:=b) (v1:=v1) (v2:=v2) hn hx hm hs) ?_;rintro r K L' R' W' hle ⟨rfl,⟨k,hki,rfl,rfl,rfl,rfl⟩|⟨hne,v2',y,rfl,rfl,rfl⟩⟩ S2
 ·have hsp:ks=ks.take (lowP (ks.map Kf.e) k.e)++k::ks.drop (lowP (ks.map Kf.e) k.e+1):=by
   rw[<-Q1h hki,List.take_append_drop]
  obtain⟨ka,hka⟩:∃ka,ka=ks.take (lowP (ks.map Kf.e) k.e):=⟨_,rfl⟩
  obtain⟨kb,hkb⟩:∃kb,kb=ks.drop (lowP (ks.map Kf.e) k.e+1):=⟨_,rfl⟩
  have hset:∀s',setC (ks.map Kf.p) k.e (fun _=>s')=ka.map Kf.p++(k.e,s')::kb.map Kf.p:=fun s'=>by rw[Z7u k.e (fun _=>s') hs k hki rfl,hka,hkb]
  rw[<-hka,<-hkb]at hsp;have hF2:=FO.focus (b:=b) (v1:=v1) (v2:=v2) hb (hsp▸hn) (hsp▸hk) (List.Perm.refl _) (List.Perm.refl _);refine ap hle ⟨rfl,k.cb,k.L,k.R,_,_,rfl,by rw[kid_at hs hki];exact hk k (List.mem_of_getElem? hki),rfl,rfl,fun s' L2 R2 h2=>by rw[hset];exact hF2.2.2 K s' L2 R2 hle h2⟩ ?_;refine S2.out.perm ?_ ?_
  ·have:=hF2.1.symm;rw[<-hsp]at this;exact this
  ·have h1:=hF2.2.1.symm;rw[<-hsp]at h1⊢;exact h1.trans (List.Perm.swap ..)
 ·obtain⟨kn,hkn⟩:∃kn:Kf,kn=⟨x,y,e,.nil,[setBlk y (sn) (sn)],[memRw (sn) [],kidRw (sn) []]⟩:=⟨_,rfl⟩
  obtain⟨ka,hka⟩:∃ka,ka=ks.take (lowP (ks.map Kf.e) e):=⟨_,rfl⟩
  obtain⟨kb,hkb⟩:∃kb,kb=ks.drop (lowP (ks.map Kf.e) e):=⟨_,rfl⟩
  have hset:∀s',setC (ks.map Kf.p) e (fun _=>s')=ka.map Kf.p++(e,s')::kb.map Kf.p:=fun s'=>by rw[Z8g e (fun _=>s') hs hne,hka,hkb]
  have hsp:ks=ka++kb:=by rw[hka,hkb,List.take_append_drop]
  have mm:∀q,q∈ka++kn::kb->q=kn\/q∈ks:=fun q hq=>by
   rw[hsp];rcases List.mem_append.1 hq with h|h
   ·exact .inr (List.mem_append_left _ h)
   ·rcases List.mem_cons.1 h with h|h
    ·exact .inl h
    ·exact .inr (List.mem_append_right _ h)
  rw[<-hka,<-hkb,<-hkn,append_assoc,List.singleton_append]at S2;have hF2:=FO.focus (b:=b) (v1:=v1) (v2:=v2') (k:=kn) (ka:=ka) (kb:=kb) hb (fun q hq=>by rcases mm q hq with rfl|h;(·rw[hkn];exact hx);exact hn q h) (fun q hq=>by rcases mm q hq with rfl|h;(·rw[hkn];exact FO.new _ _);exact hk q h) (List.Perm.refl _) (List.Perm.refl _);refine ap hle ⟨rfl,y,kn.L,kn.R,_,_,rfl,by rw[kid_not hs hne,hkn];exact FO.new _ _,rfl,rfl,fun s' L2 R2 h2=>by rw[hset];have:=hF2.2.2 K s' L2 R2 hle (by rw[hkn];exact h2);rw[show kn.e=e from by rw[hkn]]at this;exact this⟩ ?_;refine S2.out.perm ?_ ?_
  ·rw[hsp,hkn];exact List.Perm.refl _
  ·rw[hsp,hkn];simp only[cons_append,nil_append];refine Q2x fun p=>?_;simp only[List.countP_cons,List.countP_append];ac_rfl
end
end Go.Proofs.YtbmklgemmjgjfaaGreat
