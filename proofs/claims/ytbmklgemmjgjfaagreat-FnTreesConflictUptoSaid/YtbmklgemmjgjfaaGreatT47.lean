/- Part 47: Ded, Set. -/
import Derived.Test.YtbmklgemmjgjfaaGreatT46
namespace Go.Proofs.YtbmklgemmjgjfaaGreat
open Go.RowKit Go.Maps Tryz
set_option linter.unusedVariables false
set_option linter.unusedSimpArgs false
set_option maxRecDepth 100000
set_option maxHeartbeats 16000000
section
theorem ISch.of{K:Gh}{tb lb b1 b2:Nat}(h:K tb=some (.cells (L1k lb b1 lb b2).toArray 169 (0,0)))(hl:K lb=some (.cells L0y.toArray 167 (0,0)))(h1:K b1=some (.cells L0x.toArray 165 (0,0)))(h2:K b2=some (.cells L0q.toArray 165 (0,0))):ISch K tb:=by
 refine⟨lb,b1,b2,1,1,1,fun i u k=>⟨_,_,_,h,rfl,?_⟩,fun i u k=>⟨_,_,_,h,rfl,?_⟩,fun i u k=>⟨_,_,_,hl,rfl,?_⟩,fun i u k=>⟨_,_,_,h1,rfl,?_⟩,fun i u k=>⟨_,_,_,h2,rfl,?_⟩⟩
 ·rw[Nat.zero_add,<-Array.getElem?_toList];exact list4 (p:=(L0h lb b1)) (q:=(L0g lb b2)) k
 ·rw[<-Array.getElem?_toList];exact list8 (p:=(L0h lb b1)) (q:=(L0g lb b2)) rfl k
 ·rw[Nat.zero_add,<-Array.getElem?_toList];exact k
 ·rw[Nat.zero_add,<-Array.getElem?_toList];exact k
 ·rw[Nat.zero_add,<-Array.getElem?_toList];exact k
variable{J:Gh}
theorem res_cells2{P:Program}{M:Nat->Prop}{I:Gh}{w W:World}{L:List Blk}{R:List Rw}{fn:Func}{p q:Tmp}{ty uy t t2:TypeId}{b c:Nat}{cs cs2:List Value}{v u:Value}(S:Hid (St M I J w W L R))(h:fn.results=#[.cell p ty,.cell q uy]){tmps:Array Value}(hp:tmps.getD p undef=pt b)(hq:tmps.getD q undef=pt c)[i:Hs L b cs t][k:Ldv P ty cs 0 v][i2:Hs L c cs2 t2][k2:Ldv P uy cs2 0 u]:(results fn tmps).run P W=.ok (.tuple #[v,u]) W:=by
 have hp':tmps[p]?.getD undef=pt b:=by simpa using hp
 have hq':tmps[q]?.getD undef=pt c:=by simpa using hq
 have hr:=k.h (W:=W) (b:=b) fun q u hq=>(S.out.cell i.h q).trans hq;have hr2:=k2.h (W:=W) (b:=c) fun q u hq=>(S.out.cell i2.h q).trans hq;simp[results,h,hp',hq',asAddr,hr,hr2]
theorem deduced_s:Ac 75 #[] J [] []<|N0 fun u K=>∃tb,u=.tuple #[.agg #[.slice (some (ad tb 0)) 2 2],.agg (L2n nmDe).toArray]/\ISch K tb:=by
 intro M I w W S;go_enter func75,ntmps75;go_wp2_with (first|refine wk ?_|refine wn ?_;clear S;(first|(fail_if_success revert za);intro za W S|(first|(fail_if_success revert zb);intro zb W S|(first|(fail_if_success revert at_);intro at_ W S|intro de W S)))|refine Ws ?_;clear S;intro W S|refine Q9a (sub:=L0y) S rfl rfl underlying25 rfl ?_;clear S;intro lb W S)
 refine Rg S [(de,L1r,.t 30),(at_,L2i,.t 30)] [] [] [0,1,2,3,4,8,9,10,11,12,18] 10 fun W S=>?_;refine tk1 ?_;refine Z9y (md:=.any) [15,16,17,23,24,25] [(5,[]),(6,[5]),(7,[6]),(13,[]),(14,[13]),(15,[14])] (fun f x W=>∃(K:Gh),Hid (St M I K w W [(lb,L0y,.t 167),(de,L1r,.t 30),(at_,L2i,.t 30),(zb,[.bool false,.string ⟨#[]⟩,.string ⟨#[]⟩,sn,sn,.string ⟨#[]⟩],.t 30),(za,[sn],.t 24)] [])/\J.le K/\(f 5=true->∃b,x 15=.slice (some (ad b 0)) 1 1/\K b=some (.cells L0x.toArray 165 (0,0)))/\(f 6=true->∃b,x 16=.agg (L1f lb b).toArray/\K b=some (.cells L0x.toArray 165 (0,0)))/\(f 7=true->∃b,x 17=.agg (L0h lb b).toArray/\K b=some (.cells L0x.toArray 165 (0,0)))/\(f 13=true->∃b,x 23=.slice (some (ad b 0)) 1 1/\K b=some (.cells L0q.toArray 165 (0,0)))/\(f 14=true->∃b,x 24=.agg (L1f lb b).toArray/\K b=some (.cells L0q.toArray 165 (0,0)))/\(f 15=true->∃b,x 25=.agg (L0g lb b).toArray/\K b=some (.cells L0q.toArray 165 (0,0)))) 4 6 #[true,true,true,true,true,true,true,true,true,true,true,true,true,true,true,true,false,false,true,false,false] kr ?_ ?_ ?_ ?_
 ·intro f x hf;have e5:f 5=false:=(hf 5).trans kr;have e6:f 6=false:=(hf 6).trans kr;have e7:f 7=false:=(hf 7).trans kr;have e13:f 13=false:=(hf 13).trans kr;have e14:f 14=false:=(hf 14).trans kr;have e15:f 15=false:=(hf 15).trans kr;exact⟨J,S,gR,fun h=>(by rw[e5]at h;cases h),fun h=>(by rw[e6]at h;cases h),fun h=>(by rw[e7]at h;cases h),fun h=>(by rw[e13]at h;cases h),fun h=>(by rw[e14]at h;cases h),fun h=>(by rw[e15]at h;cases h)⟩
 ·rintro f x W ⟨K,S,hle,_⟩;exact vw S hle
 ·clear S;intro d hd f x W hf hfn hG;obtain⟨K,S,hle,h5,h6,h7,h13,h14,h15⟩:=hG;simp only[List.mem_cons,List.not_mem_nil,or_false]at hd;rcases hd with rfl|rfl|rfl|rfl|rfl|rfl
  ·refine⟨_,15,rfl,rfl,rfl,rfl,fun KK hKK=>?_⟩;refine yq ?_;refine Q1s (sub:=L0x) S rfl underlying26 rfl ?_;clear S;intro b W S;obtain⟨K5,hle5,hk5,S5⟩:=S.out.freeze;refine hKK (.slice (some (ad b 0)) 1 1) _ _ b1t ⟨K5,Hd S5,gT hle hle5,fun h=>⟨b,by simp,hk5⟩,fun h=>(by obtain⟨b,e,q⟩:=h6 b0b;exact⟨b,by simpa using e,hle5 _ _ q⟩),fun h=>(by obtain⟨b,e,q⟩:=h7 b0b;exact⟨b,by simpa using e,hle5 _ _ q⟩),fun h=>(by obtain⟨b,e,q⟩:=h13 b0b;exact⟨b,by simpa using e,hle5 _ _ q⟩),fun h=>(by obtain⟨b,e,q⟩:=h14 b0b;exact⟨b,by simpa using e,hle5 _ _ q⟩),fun h=>(by obtain⟨b,e,q⟩:=h15 b0b;exact⟨b,by simpa using e,hle5 _ _ q⟩)⟩
  ·refine⟨_,16,rfl,rfl,rfl,rfl,fun KK hKK=>?_⟩;obtain⟨b,e,q⟩:=h5 b1f;refine yq ?_;rw[e];have hle5:=Gh.le_refl K;refine Q2h (v:=.agg (L1f lb b).toArray) (by go_simp) ?_;refine hKK (.agg (L1f lb b).toArray) _ _ b0h ⟨K,S,hle,fun h=>(by obtain⟨b,e,q⟩:=h5 b0b;exact⟨b,by simpa using e,hle5 _ _ q⟩),fun h=>⟨b,by simp,q⟩,fun h=>(by obtain⟨b,e,q⟩:=h7 b0b;exact⟨b,by simpa using e,hle5 _ _ q⟩),fun h=>(by obtain⟨b,e,q⟩:=h13 b0b;exact⟨b,by simpa using e,hle5 _ _ q⟩),fun h=>(by obtain⟨b,e,q⟩:=h14 b0b;exact⟨b,by simpa using e,hle5 _ _ q⟩),fun h=>(by obtain⟨b,e,q⟩:=h15 b0b;exact⟨b,by simpa using e,hle5 _ _ q⟩)⟩
  ·refine⟨_,17,rfl,rfl,rfl,rfl,fun KK hKK=>?_⟩;obtain⟨b,e,q⟩:=h6 b1f;refine yq ?_;rw[e];have hle5:=Gh.le_refl K;refine Q2h (v:=.agg (L0h lb b).toArray) (by go_simp) ?_;refine hKK (.agg (L0h lb b).toArray) _ _ b0h ⟨K,S,hle,fun h=>(by obtain⟨b,e,q⟩:=h5 b0b;exact⟨b,by simpa using e,hle5 _ _ q⟩),fun h=>(by obtain⟨b,e,q⟩:=h6 b0b;exact⟨b,by simpa using e,hle5 _ _ q⟩),fun h=>⟨b,by simp,q⟩,fun h=>(by obtain⟨b,e,q⟩:=h13 b0b;exact⟨b,by simpa using e,hle5 _ _ q⟩),fun h=>(by obtain⟨b,e,q⟩:=h14 b0b;exact⟨b,by simpa using e,hle5 _ _ q⟩),fun h=>(by obtain⟨b,e,q⟩:=h15 b0b;exact⟨b,by simpa using e,hle5 _ _ q⟩)⟩
  ·refine⟨_,23,rfl,rfl,rfl,rfl,fun KK hKK=>?_⟩;refine yq ?_;refine Q1s (sub:=L0q) S rfl underlying26 rfl ?_;clear S;intro b W S;obtain⟨K5,hle5,hk5,S5⟩:=S.out.freeze;refine hKK (.slice (some (ad b 0)) 1 1) _ _ b1t ⟨K5,Hd S5,gT hle hle5,fun h=>(by obtain⟨b,e,q⟩:=h5 b0b;exact⟨b,by simpa using e,hle5 _ _ q⟩),fun h=>(by obtain⟨b,e,q⟩:=h6 b0b;exact⟨b,by simpa using e,hle5 _ _ q⟩),fun h=>(by obtain⟨b,e,q⟩:=h7 b0b;exact⟨b,by simpa using e,hle5 _ _ q⟩),fun h=>⟨b,by simp,hk5⟩,fun h=>(by obtain⟨b,e,q⟩:=h14 b0b;exact⟨b,by simpa using e,hle5 _ _ q⟩),fun h=>(by obtain⟨b,e,q⟩:=h15 b0b;exact⟨b,by simpa using e,hle5 _ _ q⟩)⟩
  ·refine⟨_,24,rfl,rfl,rfl,rfl,fun KK hKK=>?_⟩;obtain⟨b,e,q⟩:=h13 b1f;refine yq ?_;rw[e];have hle5:=Gh.le_refl K;refine Q2h (v:=.agg (L1f lb b).toArray) (by go_simp) ?_;refine hKK (.agg (L1f lb b).toArray) _ _ b0h ⟨K,S,hle,fun h=>(by obtain⟨b,e,q⟩:=h5 b0b;exact⟨b,by simpa using e,hle5 _ _ q⟩),fun h=>(by obtain⟨b,e,q⟩:=h6 b0b;exact⟨b,by simpa using e,hle5 _ _ q⟩),fun h=>(by obtain⟨b,e,q⟩:=h7 b0b;exact⟨b,by simpa using e,hle5 _ _ q⟩),fun h=>(by obtain⟨b,e,q⟩:=h13 b0b;exact⟨b,by simpa using e,hle5 _ _ q⟩),fun h=>⟨b,by simp,q⟩,fun h=>(by obtain⟨b,e,q⟩:=h15 b0b;exact⟨b,by simpa using e,hle5 _ _ q⟩)⟩
  ·refine⟨_,25,rfl,rfl,rfl,rfl,fun KK hKK=>?_⟩;obtain⟨b,e,q⟩:=h14 b1f;refine yq ?_;rw[e];have hle5:=Gh.le_refl K;refine Q2h (v:=.agg (L0g lb b).toArray) (by go_simp) ?_;refine hKK (.agg (L0g lb b).toArray) _ _ b0h ⟨K,S,hle,fun h=>(by obtain⟨b,e,q⟩:=h5 b0b;exact⟨b,by simpa using e,hle5 _ _ q⟩),fun h=>(by obtain⟨b,e,q⟩:=h6 b0b;exact⟨b,by simpa using e,hle5 _ _ q⟩),fun h=>(by obtain⟨b,e,q⟩:=h7 b0b;exact⟨b,by simpa using e,hle5 _ _ q⟩),fun h=>(by obtain⟨b,e,q⟩:=h13 b0b;exact⟨b,by simpa using e,hle5 _ _ q⟩),fun h=>(by obtain⟨b,e,q⟩:=h14 b0b;exact⟨b,by simpa using e,hle5 _ _ q⟩),fun h=>⟨b,by simp,q⟩⟩
 ·clear S;intro f x W hf hG;obtain⟨K,S,hle,h5,h6,h7,h13,h14,h15⟩:=hG;simp only[List.all_cons,List.all_nil,Bool.and_true,Bool.and_eq_true]at hf;obtain⟨b1,e7,q7⟩:=h7 hf.2.2.1;obtain⟨b2,e15,q15⟩:=h15 hf.2.2.2.2.2;have HQ:=Hd (nd3 hle q7 q15);clear h5 h6 h7 h13 h14 h15 q7 q15 hf;refine yq ?_;rw[e7,e15];clear e7 e15;generalize x 15=x15;generalize x 16=x16;generalize x 23=x23;generalize x 24=x24;refine Wr [17] 2 16 fun KK hKK=>?_;refine wq_two (s1:=(L0h lb b1)) (s2:=(L0g lb b2)) S rfl underlying22 in169 rfl rfl ?_;clear S;intro tb W S;refine hKK.out _ _ (vw S hle) ?_;clear hKK KK;refine Zw [] 1 19 ?_;intro KK hKK;refine Q0y (sub:=[.slice (some (ad tb 0)) 2 2]) S rfl rfl rfl rf ?_;clear S;intro W S;refine hKK.out _ _ (vw S hle) ?_;clear hKK KK;refine Xw [] 0 20 ?_;intro KK hKK;refine Q0y (sub:=L1r) S rfl rfl rfl rf ?_;clear S;intro W S;refine hKK.out _ _ (vw S hle) ?_;clear hKK KK;refine yf ?_;refine En ?_;go_wp2_with fail
  refine bodyPost_ret (res_cells2 S rfl rfl rfl) rfl ?_;replace S:=Lib.front S [(tb,(L0h lb b1)++(L0g lb b2),.t 169),(lb,L0y,.t 167)] [];obtain⟨K1,hle1,hk1,S1⟩:=S.out.freezeL;have g1:K1 tb=some (.cells (L1k lb b1 lb b2).toArray 169 (0,0)):=hk1 (tb,_,.t 169) b0f;have g2:K1 lb=some (.cells L0y.toArray 167 (0,0)):=hk1 (lb,_,.t 167) b0f;exact ap (L:=[]) (gT HQ.out.1 hle1) ⟨rfl,rfl,tb,rfl,ISch.of g1 g2 (hle1 _ _ HQ.out.2.1) (hle1 _ _ HQ.out.2.2)⟩ (show St _ _ _ _ _ _ _ from keep (Hd S1))
theorem world0_s:Ac 31 #[] J [] []<|N0 fun u K=>∃tb x0,u=.agg (L0j tb nmDe x0).toArray/\ISch K tb/\VIs K x0 (Tr.map []).iv:=by
 intro M I w W S;go_enter func31,ntmps31;go_wp2_with (refine wn ?_;clear S;intro z0 W S)
 refine Q0a S (deduced_s (J:=J)) ?_;clear S;rintro r5 K5 L5 R5 W' hle5 ⟨rfl,rfl,tb,rfl,hs⟩ S;have HS:=Hd (And.intro hs hle5);clear hs;replace S:=sa S;go_wp2_with (first|refine wn ?_;clear S;(first|(fail_if_success revert z1);intro z1 W S|intro z2 W S)|refine Ws ?_;clear S;intro W S)
 refine Rg S [(z2,L2n nmDe,.t 30),(z1,[.slice (some (ad tb 0)) 2 2],.t 24)] [] [] [0,1] 3 fun W S=>?_;refine Zw [3] 1 2 ?_;intro KK hKK;go_simp;refine(emptyMap_x K5 _ S.out.inw).mono ?_;rintro e9 W ⟨x0,rfl,st9,hx0⟩;replace S:=Hd (S.out.call st9);have HV:=Hd hx0;clear st9 hx0;unfold V6.agg;refine Tw [] 0 4 ?_;intro KK hKK;refine Q0y (sub:=(L0j tb nmDe x0)) S rfl rfl rfl rf ?_;clear S;intro W S;refine Ey ?_;go_wp2_with fail
 refine bT ?_;exact ap (L:=[]) HS.out.2 ⟨rfl,rfl,tb,x0,rfl,HS.out.1,HV.out⟩ kp
end
section
theorem setOf_snoc(out l:List (List PE))(p:List PE):Q3d out (l++[p])=if p=[]then Q3d out l else wins (Q3d out l) p:=by
 induction l generalizing out with
 |nil=>rw[List.nil_append,Q3d,Q3d,Q3d]
 |cons q l ih=>rw[List.cons_append,Q3d,Q3d,ih]
theorem wins_len(l:List (List PE))(p:List PE):(wins l p).length<=l.length+1:=by
 induction l with
 |nil=>simp[wins]
 |cons q l ih=>
  unfold wins;split
  ·simp only[List.length_cons];omega
  ·split<;>simp
theorem Z5f(out l:List (List PE)):(Q3d out l).length<=out.length+l.length:=by
 induction l generalizing out with
 |nil=>rw[Q3d];simp
 |cons p l ih=>
  rw[Q3d];have:=ih (if p=[]then out else wins out p);have h2:=wins_len out p;simp only[List.length_cons];by_cases e:p=[]
  ·rw[if_pos e]at this⊢;omega
  ·rw[if_neg e]at this⊢;omega
theorem X8j(l:List (List PE)):WS (Q3d [] l):=(Q6i l [] List.Pairwise.nil).1
theorem Z0w{l:List (List PE)}(h:Z2u l):Z2u (Q3d [] l):=fun q hq=>by
 rcases((Q6i l [] List.Pairwise.nil).2 q).1 hq with h1|h1
 ·cases h1
 ·exact h q h1.1
theorem ins_one{α:Type}(vs:List α)(z v:α)(k n2:Nat)(hk:k<=vs.length)(hn:n2=vs.length+1):(((vs++[z]).take (k+1)++((vs++[z]).drop k).take (n2 -(k+1))++(vs++[z]).drop (k+1+(n2 -(k+1)))).set k v)=vs.take k++[v]++vs.drop k:=by
 subst hn;have e1:(vs++[z]).drop (k+1+(vs.length+1 -(k+1)))=[]:=List.drop_eq_nil_of_le b1r;have e2:((vs++[z]).drop k).take (vs.length+1 -(k+1))=vs.drop k:=by
  rw[List.drop_append_of_le_length hk];exact List.take_left' (by rw[List.length_drop];omega)
 obtain⟨y,hy⟩:∃y,(vs++[z])[k]?=some y:=gx b1r;have e3:(vs++[z]).take (k+1)=vs.take k++[y]:=by
  rw[List.take_add_one,hy,List.take_append_of_le_length hk];rfl
 rw[e1,e2,e3,List.append_nil,List.append_assoc,List.set_append_right _ _ b1w];have e4:k -(vs.take k).length=0:=by rw[List.length_take];omega
 rw[e4];simp
theorem setOf_x(I:Gh)(ra:Value)(ps:List (List PE))(hp:Q2i I ra ps)(hps:Z2u ps)(hpl:ps.length<=2 ^ 30)(w:World)(hi:I.In w):
  Calls prog 15 #[ra] w fun e w'=>∃(r:Value) (K:Gh),e=.returned r/\Step Nix I K w w'/\Q2i K r (Q3d [] ps):=by
 obtain⟨a1,c1,vs1,rfl,_,_,hf1,ha1⟩:=hp;have HA:=Hd (nd3 (Q2f.flat hf1 hi) ha1 hps);clear hf1 ha1 hps;refine Q0c (M:=Nix) hi ?_;intro W S;go_enter func15,ntmps15;go_wp2_with (first|refine wk ?_|refine Ws ?_;clear S;intro W S|refine wn ?_;clear S;intro _ W S)
 go_loopg [3,5,6,7,10] ps.length (fun g s3 s5 s6 s7 s10 wr=>∃(i:Nat) (A:OA) (N c:Nat) (J:Gh) (vs:List Value),s3=.slice A N c/\s10=.int .i64 (i:Nat)/\i<=ps.length/\g=ps.length -i/\Hid (St Nix I J w wr [] [⟨.slice A N c,79,1,N,vs⟩])/\Hid (I.le J/\All2 (Q2l J) vs (Q3d [] (ps.take i))))
 case atStart=>exact⟨0,_,_,_,I,[],rfl,rfl,Nat.zero_le _,rfl,S.out.nilrow 79 1,⟨gR,.nil⟩⟩
 case round=>
  clear S;obtain⟨i,A,N,c,J,vs,rfl,rfl,hil,hg,S,HV⟩:=hrel;have hN:N=(Q3d [] (ps.take i)).length:=by
   have e1:=(S.out.row .head).1;have e2:=HV.out.2.length;simp only at e1;omega
  have hNb:N<=2 ^ 30:=by
   have:=Z5f [] (ps.take i);simp only[List.length_take,List.length_nil]at this;omega
  have HN:=Hd hN;clear hN;by_cases hlt:i<ps.length
  ·obtain⟨p,hq⟩:∃p,ps[i]?=some p:=gx hlt;obtain⟨b,o,pa,pc,rfl,hcell,hpf⟩:=Z3q (HA.out.1.step0 S.out.step) HA.out.2.1 hq;have hpb:=HA.out.2.2 p (List.mem_of_getElem? hq);have HX:=Hd hq;have HP:=Hd (And.intro (hpf.mono HV.out.1) hpb);have hsn:Q3d [] (ps.take (i+1))=if p=[]then Q3d [] (ps.take i)else wins (Q3d [] (ps.take i)) p:=by
    rw[List.take_add_one,hq];exact setOf_snoc [] _ p
   have HS:=Hd hsn;have HSM:Hid (Z2u (Q3d [] (ps.take i))):=Z0w fun q hq=>HA.out.2.2 q (List.mem_of_mem_take hq);have hpl1:p.length<=2 ^ 30:=hpb.1;clear hq hpf hpb hsn;by_cases he:p.length=0
   ·have hz:((p.length:Int)==0)=true:=by rw[he];rfl
    have he2:p=[]:=List.length_eq_zero_iff.1 he;clear he;go_wp2_with (first|refine Q5f rf rf rf hcell kr ?_|refine wk ?_|refine Ws ?_;clear S;intro W S|refine wn ?_;clear S;intro _ W S)
    go_roundg (ps.length -(i+1))
    case measure=>omega
    case rel=>
     refine⟨i+1,A,N,c,J,vs,rfl,rfl,hlt,rfl,S,HV.out.1,?_⟩;rw[HS.out,if_pos he2];exact HV.out.2
   ·have hz:((p.length:Int)==0)=false:=beq_eq_false_iff_ne.2 om;have he2:¬p=[]:=fun e=>he (by rw[e];rfl);have HE:=Hd he2;clear he he2;go_wp2_with (first|refine Q5f rf rf rf hcell kr ?_|refine wk ?_|refine Ws ?_;clear S;intro W S|refine wn ?_;clear S;intro _ W S)
    refine(place_x J A N c vs _ _ (Q2f.own (S.out.row .head)) HV.out.2 HN.out hNb HSM.out (X8j _) p pa pc HP.out.1 hpl1 HP.out.2.2 S.out.inw).mono ?_;rintro e W ⟨rfl,st⟩;replace S:=Hd (S.out.call st);clear st;have HW:=Hd (wins_at p (X8j (ps.take i)));have hkl:=X5c (Q3d [] (ps.take i)) p;rw[<-HN.out]at hkl;obtain⟨k,hk⟩:∃k,k=lowW (Q3d [] (ps.take i)) p:=⟨_,rfl⟩
    rw[<-hk]at HW hkl⊢;clear hk;by_cases hhas:(Q3d [] (ps.take i))[k]?=some p
    ·rw[decide_eq_true hhas];have HH:=Hd hhas;clear hhas;go_wp2_with (first|refine wk ?_|refine Ws ?_;clear S;intro W S|refine wn ?_;clear S;intro _ W S)
     go_roundg (ps.length -(i+1))
     case measure=>omega
     case rel=>
      refine⟨i+1,A,N,c,J,vs,rfl,rfl,hlt,rfl,S,HV.out.1,?_⟩;rw[HS.out,if_neg HE.out,HW.out,if_pos HH.out];exact HV.out.2
    ·rw[decide_eq_false hhas];have HH:=Hd hhas;clear hhas;go_wp2_with (first|refine wl_app S rf _ rf rf rf (fun r=>[r]) (fun _=>.head) underlying49 in79 rfl b0t (St.reads S.out b0a 1 1 rfl) (fun u hu=>by cases hu with|head=>rfl|tail _ h=>cases h) b0q om ?_;clear S;(try clear W);intro A2 N2 c2 W hN2 S|refine Z6u (t:=49) (e:=79) (sub:=[sn]) S rf rf underlying49 in79 rf (by exact Lst.cons Lst.nil) rf b0t b0t ?_;clear S;(try clear W);intro _ W S|refine wk ?_|refine Ws ?_;clear S;intro W S|refine wn ?_;clear S;intro _ W S)
     have hN3:N2=N+1:=hN2.out;obtain⟨g2,rfl⟩:∃g2,A2=some ⟨g2,0,none⟩:=by
      rcases(S.out.row .head).2 with⟨_,h0⟩|⟨g2,cap,cur,e1,_⟩
      ·simp only at h0;omega
      ·injection e1 with e1 _ _;exact⟨g2,e1⟩
     have hc2:N2<=c2:=by obtain⟨cur,_,_,_,h⟩:=S.out.rcur;exact h
     have hc3:c2<=9223372036854775807:=by
      rcases(S.out.row .head).2 with⟨e1,_⟩|⟨g',cap,cur,e1,_,_,_,hm,_⟩
      ·cases e1
      ·injection e1 with _ _ e3;subst e3;unfold maxLen at hm;exact hm
     have hw1:IntKind.i64.wrap ((k:Int)+1)=(k:Int)+1:=by rw[IntKind.wrap_i64];omega
     have hb1:(0:Int)<=(k:Int)+1:=by omega
     have htn:((k:Int)+1).toNat=k+1:=by omega
     have hb2:(k:Int)+1<=(N2:Int):=by omega
     have hb3:(k:Int)<=(N2:Int):=by omega
     have hck0:¬(c2=k):=by omega
     have hvone:=X3l HV.out.2;have hvone2:∀u∈vs++[Value.slice none 0 0],u.oneCell'=true:=fun u hu=>by
      rcases List.mem_append.1 hu with h|h
      ·exact hvone u h
      ·simp at h;rw[h];rfl
     clear hN3;have hN3:=hN2;by_cases hck:c2=k+1
     ·subst hck;have hn2:N2=k+1:=by omega
      clear hN3;subst hn2;have hb5:(k:Int)<=(k:Int)+1:=by omega
      have hb6:¬(k+1=k):=by omega
      have hb7:(0:Int)<=(k:Int):=by omega
      go_region_law (refine Z7e S.out.drew rfl rfl underlying49 in79.sz (some ⟨g2,0,none⟩) (some ⟨g2,k,none⟩) 0 0 (k+1 -k) (k+1 -k) b0v b0v (k+1) k 0 (by show _=min _ _;omega) (fun h=>absurd h (Nat.lt_irrefl _)) om om hvone2 ?_;clear S;intro W S)
      ·go_wp2_with (first|refine wk ?_|refine Ws ?_;clear S;intro W S|refine wn ?_;clear S;intro _ W S)
       refine(Z6p J p pa pc HP.out.1 hpl1 _ S.out.inw).mono ?_;rintro e W ⟨pv,K2,rfl,st,hpv⟩;replace S:=Hd (S.out.call st);have hle:=Hd st.le;obtain⟨pa',pc',rfl,q1,q2,q3⟩:=hpv;have HQ:=Hd (nd3 q1 q2 q3);clear st q1 q2 q3;have hk2:k<(k+1):=by omega
       go_wp2_with (first|refine Z6h (v:=.slice pa' p.length pc') S rf rf rf rf rf kr hk2 ?_;clear S;(try clear W);intro W S|refine wk ?_|refine Ws ?_;clear S;intro W S|refine wn ?_;clear S;intro _ W S)
       go_roundg (ps.length -(i+1))
       case measure=>omega
       case rel=>
        have S2:=S.out.pop;have hvl:vs.length=N:=by rw[HV.out.2.length,<-HN.out]
        have hI:=ins_one vs (Value.slice none 0 0) (Value.slice pa' p.length pc') k (k+1) om (by have:=hN2.out;omega);rw[Nat.sub_self]at hI;first|rw[hI]at S2|(rw[Nat.add_zero]at hI;rw[hI]at S2)|(simp only[List.take_zero,List.append_nil,Nat.add_zero]at hI S2;rw[hI]at S2)
        refine⟨i+1,_,(k+1),(k+1),K2,_,rfl,rfl,hlt,rfl,S2,gT HV.out.1 hle.out,?_⟩;exact e0z
     ·go_region_law (refine Z7e S.out.drew rfl rfl underlying49 in79.sz (some ⟨g2,k+1,none⟩) (some ⟨g2,k,none⟩) (N2 -(k+1)) (c2 -(k+1)) (N2 -k) (c2 -k) b0v b0v (k+1) k (N2 -(k+1)) (by show _=min _ _;omega) (fun _=>⟨rfl,rfl⟩) om om hvone2 ?_;clear S;intro W S)
      ·go_wp2_with (first|refine wk ?_|refine Ws ?_;clear S;intro W S|refine wn ?_;clear S;intro _ W S)
       refine(Z6p J p pa pc HP.out.1 hpl1 _ S.out.inw).mono ?_;rintro e W ⟨pv,K2,rfl,st,hpv⟩;replace S:=Hd (S.out.call st);have hle:=Hd st.le;obtain⟨pa',pc',rfl,q1,q2,q3⟩:=hpv;have HQ:=Hd (nd3 q1 q2 q3);clear st q1 q2 q3;have hk2:k<N2:=by omega
       go_wp2_with (first|refine Z6h (v:=.slice pa' p.length pc') S rf rf rf rf rf kr hk2 ?_;clear S;(try clear W);intro W S|refine wk ?_|refine Ws ?_;clear S;intro W S|refine wn ?_;clear S;intro _ W S)
       go_roundg (ps.length -(i+1))
       case measure=>omega
       case rel=>
        have S2:=S.out.pop;have hvl:vs.length=N:=by rw[HV.out.2.length,<-HN.out]
        rw[ins_one vs _ _ k N2 om (by have:=hN2.out;omega)]at S2;refine⟨i+1,_,N2,c2,K2,_,rfl,rfl,hlt,rfl,S2,gT HV.out.1 hle.out,?_⟩;exact e0z
  ·have e1:i=ps.length:=by omega
   subst e1;go_wp2_with (first|refine wk ?_|refine Ws ?_;clear S;intro W S|refine wn ?_;clear S;intro _ W S)
   go_ret;obtain⟨K,a,c',hle,hv,g1,g2,hf,S4⟩:=S.out.rfreeze;have h1:=HN.out;have h2:=HV.out.2;rw[List.take_length]at h1 h2;exact⟨_,K,rfl,S4.step,a,c',vs,by rw[<-h1];exact hv,by rw[<-h1];exact g1,g2,hf,h2.imp fun _ _ k=>Q2l.mono k hle⟩
theorem X6b(I:Gh)(ra rb:Value)(ps qs:List (List PE))(hp:Q2i I ra ps)(hq:Q2i I rb qs)(hps:Z2u ps)(hqs:Z2u qs)(hpl:ps.length<=2 ^ 30)(hql:qs.length<=2 ^ 30)(w:World)(hi:I.In w):
  Calls prog 16 #[ra,rb] w fun e w'=>∃K,e=.returned (.bool (decide (Q3d [] ps=Q3d [] qs)))/\Step Nix I K w w':=by
 have HA:=Hd (nd4 hp hq hps hqs);have h1:=Z5f [] ps;have h2:=Z5f [] qs;simp only[List.length_nil]at h1 h2;have e1:(Q3d [] ps).length<=2 ^ 30:=by omega
 have e2:(Q3d [] qs).length<=2 ^ 30:=by omega
 clear hp hq hps hqs h1 h2;refine Q0c (M:=Nix) hi ?_;intro W S;go_enter func16,ntmps16;go_wp2_with fail
 refine(setOf_x I ra ps HA.out.1 HA.out.2.2.1 hpl _ S.out.inw).mono ?_;rintro e W ⟨r1,K1,rfl,st,hr1⟩;replace S:=Hd (S.out.call st);have HL:=Hd st.le;clear st;go_wp2_with fail
 refine(setOf_x K1 rb qs (HA.out.2.1.mono HL.out) HA.out.2.2.2 hql _ S.out.inw).mono ?_;rintro e W ⟨r2,K2,rfl,st,hr2⟩;replace S:=Hd (S.out.call st);have hr1:=hr1.mono st.le;clear st;go_wp2_with fail
 refine got S (listed_x K2 r1 r2 _ _ hr1 hr2 (Z0w HA.out.2.2.1) (Z0w HA.out.2.2.2) e1 e2) ?_;clear S;intro W S;go_wp2_with fail
 go_ret;exact⟨K2,rfl,S.out.step⟩
end
end Go.Proofs.YtbmklgemmjgjfaaGreat
