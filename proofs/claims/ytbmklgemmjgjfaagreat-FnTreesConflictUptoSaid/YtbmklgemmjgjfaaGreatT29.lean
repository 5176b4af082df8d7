/- Part 29: Knd. -/
import Derived.Test.YtbmklgemmjgjfaaGreatT28
namespace Go.Proofs.YtbmklgemmjgjfaaGreat
open List (append_assoc append_nil cons_append length_append length_cons length_drop length_nil mem_of_getElem? nil_append)
open Go.RowKit Go.Maps Tryz
set_option linter.unusedVariables false
set_option linter.unusedSimpArgs false
set_option maxRecDepth 100000
set_option maxHeartbeats 8000000
section
def NdIs(I:Gh)(n:Nat×Nat)(p:PE×FS):Prop:=Nm I n.1 p.1/\FSI I n.2 p.2
variable{I:Gh}
theorem NdIs.mono{J:Gh}{n:Nat×Nat}{p:PE×FS}(h:NdIs I n p)(l:I.le J):NdIs J n p:=⟨h.1.mono l,h.2.mono l⟩
theorem nd_pe{b o:Nat}{x:Nat×Nat}(h:∀(j:Nat) u,(Q2p x)[j]?=some u->I.cell (ad b (o+j)) u)(j:Nat)(u:Value)(hu:(Q0i x.1)[j]?=some u):I.cell (ad b (o+j)) u:=by
 refine h j u ?_;match j,hu with
 |0,hu=>exact hu
 |1,hu=>exact hu
 |2,hu=>exact hu
 |3,hu=>exact hu
 |j+4,hu=>simp[Q0i]at hu
def SetH(f:FuncId)(op:FS->FS->FS)(N:Nat):Prop:=∀(I:Gh) (b1 b2:Nat) (s t:FS),FSI I b1 s->FSI I b2 t->s.cnt+t.cnt<N->s.cnt+t.cnt<=2 ^ 30->
 Ac f #[pt b1,pt b2] I [] [] (N0 fun u K=>∃b:Nat,u=pt b/\FSI K b (op s t))
theorem Z6z(l:List (PE×FS)):Q2k [] l=l:=by unfold Q2k;rfl
theorem Z6i(l:List (PE×FS)):Q2k l []=l:=by cases l<;>(unfold Q2k;rfl)
theorem interC_nl(l:List (PE×FS)):Q2j [] l=[]:=by unfold Q2j;rfl
theorem interC_nr(l:List (PE×FS)):Q2j l []=[]:=by cases l<;>(unfold Q2j;rfl)
theorem X7t(l:List (PE×FS)):Q4e [] l=[]:=by unfold Q4e;rfl
theorem X7k(l:List (PE×FS)):Q4e l []=l:=by cases l<;>(unfold Q4e;rfl)
theorem interC_x(N:Nat)(IH:SetH 154 FS.inter N)(I:Gh)(sb tb:Nat)(m m':List (PE×FS))(hs:Z0k I sb 1 m)(ht:Z0k I tb 1 m')(hN:FS.cnt.cntC m+FS.cnt.cntC m'<=N)(hl:FS.cnt.cntC m+FS.cnt.cntC m'<=2 ^ 30):
  Ac 214 #[.pointer (some (ad sb 1)),.pointer (some (ad tb 1))] I [] []<|N0 fun u K=>∃b:Nat,u=pt b/\Z0k K b 0 (Q2j m m'):=by
 obtain⟨aA,cA,nsA,hA0,hcA,hcA2,hfA,hbA⟩:=hs;obtain⟨aB,cB,nsB,hB0,hcB,hcB2,hfB,hbB⟩:=ht;have hml:m.length+m'.length<=2 ^ 30:=by have:=Q7c m;have:=Q7c m';omega
 have HB:=Hd (nd4 hbA hbB hfA hfB);have HI:=Hd IH;have HC0:=Hd (And.intro hA0 hB0);clear hbA hbB hfA hfB IH hA0 hB0;intro M I0 w W S;have hA:=HC0.out.1;have hB:=HC0.out.2;go_enter func214,ntmps214;go_wp2_with (first|refine wk ?_|refine Ws ?_;clear S;intro W S|refine wn ?_;clear S;intro y W S)
 clear hA hB;obtain⟨bo,hbo⟩:∃bo,bo=y:=⟨_,rfl⟩
 subst hbo;replace S:=Hd (S.out.nilrow 423 5);go_loopg [6,7] (m.length+m'.length) (fun g s6 s7 wr=>∃(i j:Nat) (acc:List (PE×FS)) (ns:List (Nat×Nat)) (A:OA) (c0:Nat) (J:Gh),s6=.int .i64 (i:Nat)/\s7=.int .i64 (j:Nat)/\i<=m.length/\j<=m'.length/\g=(m.length -i)+(m'.length -j)/\acc.length<=i+j/\Hid (I.le J)/\Hid (St M I0 J w wr [(bo,[.slice A acc.length c0],.t 314)] [⟨.slice A acc.length c0,423,5,acc.length,ns.flatMap Q2p⟩])/\Hid (All2 (NdIs J) ns acc)/\Hid (acc++Q2j (m.drop i) (m'.drop j)=Q2j m m'))
 case atStart=>exact⟨0,0,[],[],_,_,I,rfl,rfl,Nat.zero_le _,Nat.zero_le _,rfl,Nat.le_refl _,Hd gR,S,Hd .nil,Hd b0f⟩
 case round=>
  clear S;obtain⟨i,j,acc,ns,A,c0,J,rfl,rfl,hi1,hj1,hg,hal,HL,S,HO,HP⟩:=hrel;have hA:=HC0.out.1.mono HL.out;have hB:=HC0.out.2.mono HL.out;by_cases h1:i<m.length
  ·obtain⟨p,hp⟩:∃p,m[i]?=some p:=gx h1;obtain⟨x,hx⟩:∃x,nsA[i]?=some x:=gx b1j;obtain⟨b1,o1,rfl,hX⟩:=(HB.out.2.2.1.mono HL.out).ndC hx;have HX1:=Hd (And.intro (Q2t hp) (Q7i (mem_of_getElem? hp)));have hd1:(decide ((i:Int)<(m.length:Int)))=true:=by simp;omega
   by_cases h2:j<m'.length
   ·obtain⟨q,hq⟩:∃q,m'[j]?=some q:=gx h2;obtain⟨y,hy⟩:∃y,nsB[j]?=some y:=gx b1b;obtain⟨b2,o2,rfl,hY⟩:=(HB.out.2.2.2.mono HL.out).ndC hy;have HX2:=Hd (And.intro (Q2t hq) (Q7i (mem_of_getElem? hq)));have HN:=Hd (nd4 ((NdIs.mono (HB.out.1.get hx hp) HL.out:NdIs J x p)) (NdIs.mono (HB.out.2.1.get hy hq) HL.out:NdIs J y q) True.intro HI.out);have hd2:(decide ((j:Int)<(m'.length:Int)))=true:=by simp;omega
    clear hp hx hq hy;go_wp2_with (first|refine wk ?_|refine Ws ?_;clear S;intro W S|refine wn ?_;clear S;intro y W S)
    refine Rg S [] [] [] [0,1,2,3,4,5,6,7,8,9,10,11,12,13,14,15] 1 fun W S=>?_;refine tk9 ?_;refine Wr [] 0 16 fun K hK=>?_;go_simp;refine got S (Q8s HN.out.1.1 HN.out.2.1.1) ?_;clear S;intro W S;refine Ey ?_;obtain⟨ab,hab⟩:∃ab,ab=plt p.1 q.1:=⟨_,rfl⟩
    rw[<-hab];have HAB:=Hd hab.symm;clear hab;cases ab with
    |true=>
     go_wp2_with (first|refine wk ?_|refine Ws ?_;clear S;intro W S|refine wn ?_;clear S;intro y W S)
     go_roundg ((m.length -(i+1))+(m'.length -(j)))
     case measure=>omega
     case rel=>exact⟨i+1,j,acc,ns,A,c0,J,rfl,rfl,by omega,by omega,rfl,by(try simp only[length_append,length_cons,length_nil]);omega,HL,(S),HO,Hd (by have:=HP.out;rw[HX1.out.1,HX2.out.1]at this;obtain⟨p1,p2⟩:=p;obtain⟨q1,q2⟩:=q;rw[Q2j]at this;(try rw[HX1.out.1]);(try rw[HX2.out.1]);simp only[HAB.out,Bool.false_eq_true,if_true,if_false]at this;rw[<-this];(try simp only[append_assoc,cons_append,nil_append]))⟩
    |false=>
     go_wp2_with (first|refine wk ?_|refine Ws ?_;clear S;intro W S|refine wn ?_;clear S;intro y W S)
     refine Rg S [] [] [] [0,1,2,3,4,5,6,7,8,9,10,11,12,13,14,15] 2 fun W S=>?_;refine tk9 ?_;refine Wr [17] 0 16 fun K hK=>?_;go_simp;refine got S (Q8s HN.out.2.1.1 HN.out.1.1) ?_;clear S;intro W S;refine Hk ?_;refine tk9 ?_;refine En ?_;obtain⟨ba,hba⟩:∃ba,ba=plt q.1 p.1:=⟨_,rfl⟩
     rw[<-hba];have HBA:=Hd hba.symm;clear hba;cases ba with
     |true=>
      go_wp2_with (first|refine wk ?_|refine Ws ?_;clear S;intro W S|refine wn ?_;clear S;intro y W S)
      go_roundg ((m.length -(i))+(m'.length -(j+1)))
      case measure=>omega
      case rel=>exact⟨i,j+1,acc,ns,A,c0,J,rfl,rfl,by omega,by omega,rfl,by(try simp only[length_append,length_cons,length_nil]);omega,HL,(S),HO,Hd (by have:=HP.out;rw[HX1.out.1,HX2.out.1]at this;obtain⟨p1,p2⟩:=p;obtain⟨q1,q2⟩:=q;rw[Q2j]at this;(try rw[HX1.out.1]);(try rw[HX2.out.1]);simp only[HAB.out,HBA.out,Bool.false_eq_true,if_true,if_false]at this;rw[<-this];(try simp only[append_assoc,cons_append,nil_append]))⟩
     |false=>
      go_wp2_with (first|refine wk ?_|refine Ws ?_;clear S;intro W S|refine wn ?_;clear S;intro y W S)
      refine Rg S [] [] [] [0,1,2,3,4,5,6,7,8,9,10,11,12,13,14,15] 2 fun W S=>?_;refine tk9 ?_;refine Wr [17] 0 16 fun K hK=>?_;go_simp;refine Q0a S (HN.out.2.2.2 _ _ _ _ _ HN.out.1.2 HN.out.2.1.2 b1a b1a) ?_;rintro r K3 L' R' W' hle2 ⟨rfl,rfl,rb,rfl,hr⟩ S2;rw[nil_append,nil_append]at S2;clear S;have S:=S2;clear S2;refine Hk ?_;refine tk9 ?_;refine En ?_;have hA2:=hA.mono hle2;have hB2:=hB.mono hle2;have hX2:=fun j u hu=>(hX j u hu).mono hle2;have hY2:=fun j u hu=>(hY j u hu).mono hle2;clear hA hB hX hY;have hA:=hA2;have hB:=hB2;have hX:=hX2;have hY:=hY2;clear hA2 hB2 hX2 hY2;go_wp2_with (first|refine wk ?_|refine Ws ?_;clear S;intro W S|refine wn ?_;clear S;intro y W S)
      refine(Z3g hr (by have:=Z2h p.2 q.2;have h1:=HX1.out.2;have h2:=HX2.out.2;omega) _ S.out.inw).mono ?_;rintro e' W ⟨rfl,st⟩;replace S:=Hd (S.out.call st);clear st;obtain⟨br,hbr⟩:∃br,br=(p.2.inter q.2).bare:=⟨_,rfl⟩
      rw[<-hbr];have HBR:=Hd hbr.symm;clear hbr;cases br with
      |true=>
       go_wp2_with (first|refine wk ?_|refine Ws ?_;clear S;intro W S|refine wn ?_;clear S;intro y W S)
       go_roundg ((m.length -(i+1))+(m'.length -(j+1)))
       case measure=>omega
       case rel=>exact⟨i+1,j+1,acc,ns,A,c0,K3,rfl,rfl,by omega,by omega,rfl,by(try simp only[length_append,length_cons,length_nil]);omega,Hd (gT HL.out hle2),(S),Hd (HO.out.imp fun _ _ k=>NdIs.mono k hle2),Hd b0o⟩
      |false=>
       go_wp2_with (first|refine wk ?_|refine Ws ?_;clear S;intro W S|refine wn ?_;clear S;intro y W S)
       refine Rg S [(bo,[.slice A acc.length c0],.t 314)] [] [19] [0,1,2,3,4,5,6,7,8,9,10,11,12,13,14] 5 fun W S=>?_;refine tk9 ?_;refine Wr [] 4 15 fun K hK=>?_;refine Q1s S rfl underlying312 rfl ?_;clear S;intro y1 W S;refine Yw [17,18] 1 16 ?_;intro K hK;refine Q1m S rfl rfl rfl underlying312 Z1o rfl om ?_;clear S;intro A1 c1 W S;refine Hk ?_;refine tk9 ?_;refine Cl 19 fun K hK=>?_;refine Q0j (v:=.slice A1 (acc.length+1) c1) S rfl rfl rfl rfl ?_;clear S;intro W S;refine hK.out _ _ (NoPanic.normal ?_);clear hK K;go_wp2_with (first|refine wk ?_|refine Ws ?_;clear S;intro W S|refine wn ?_;clear S;intro y W S)
       go_roundg ((m.length -(i+1))+(m'.length -(j+1)))
       case measure=>omega
       case rel=>exact⟨i+1,j+1,acc++[(p.1,p.2.inter q.2)],ns++[(x.1,rb)],_,_,K3,rfl,rfl,by omega,by omega,rfl,by(try simp only[length_append,length_cons,length_nil]);omega,Hd (gT HL.out hle2),b0e,Hd (Q1e (HO.out.imp fun _ _ k=>NdIs.mono k hle2) (show NdIs K3 (x.1,rb) _ from⟨HN.out.1.1.mono hle2,hr⟩)),Hd b0o⟩
   ·have hj2:j=m'.length:=by omega
    subst hj2;go_wp2_with (first|refine wk ?_|refine Ws ?_;clear S;intro W S|refine wn ?_;clear S;intro y W S)
    exact e0w
  ·have hi2:i=m.length:=by omega
   subst hi2;go_wp2_with (first|refine wk ?_|refine Ws ?_;clear S;intro W S|refine wn ?_;clear S;intro y W S)
   exact e0w
theorem z0z{P:Prop}(h:P:=by
 refine ap (gT HL.out (gT l1 l2)) ⟨rfl,rfl,bo,rfl,_,_,ns++nsA.drop i,⟨_,_,_,e2,rfl,by rw[<-hlen];rfl⟩,by rw[<-hlen];exact g1,g2,?_,?_⟩ S2
 ·rw[List.flatMap_append];exact f1.mono l2
 ·exact e1o):P:=h
theorem unionC_x(N:Nat)(IH:SetH 102 FS.union N)(I:Gh)(sb tb:Nat)(m m':List (PE×FS))(hs:Z0k I sb 1 m)(ht:Z0k I tb 1 m')(hN:FS.cnt.cntC m+FS.cnt.cntC m'<=N)(hl:FS.cnt.cntC m+FS.cnt.cntC m'<=2 ^ 30):
  Ac 159 #[.pointer (some (ad sb 1)),.pointer (some (ad tb 1))] I [] []<|N0 fun u K=>∃b:Nat,u=pt b/\Z0k K b 0 (Q2k m m'):=by
 obtain⟨aA,cA,nsA,hA0,hcA,hcA2,hfA,hbA⟩:=hs;obtain⟨aB,cB,nsB,hB0,hcB,hcB2,hfB,hbB⟩:=ht;have hml:m.length+m'.length<=2 ^ 30:=by have:=Q7c m;have:=Q7c m';omega
 have HB:=Hd (nd4 hbA hbB hfA hfB);have HI:=Hd IH;have HC0:=Hd (And.intro hA0 hB0);clear hbA hbB hfA hfB IH hA0 hB0;intro M I0 w W S;have hA:=HC0.out.1;have hB:=HC0.out.2;go_enter func159,ntmps159;go_wp2_with (first|refine wk ?_|refine Ws ?_;clear S;intro W S|refine wn ?_;clear S;intro y W S)
 clear hA hB;obtain⟨bo,hbo⟩:∃bo,bo=y:=⟨_,rfl⟩
 subst hbo;replace S:=Hd (S.out.nilrow 423 5);go_loopg [6,7] (m.length+m'.length) (fun g s6 s7 wr=>∃(i j:Nat) (acc:List (PE×FS)) (ns:List (Nat×Nat)) (A:OA) (c0:Nat) (J:Gh),s6=.int .i64 (i:Nat)/\s7=.int .i64 (j:Nat)/\i<=m.length/\j<=m'.length/\g=(m.length -i)+(m'.length -j)/\acc.length<=i+j/\Hid (I.le J)/\Hid (St M I0 J w wr [(bo,[.slice A acc.length c0],.t 314)] [⟨.slice A acc.length c0,423,5,acc.length,ns.flatMap Q2p⟩])/\Hid (All2 (NdIs J) ns acc)/\Hid (acc++Q2k (m.drop i) (m'.drop j)=Q2k m m'))
 case atStart=>exact⟨0,0,[],[],_,_,I,rfl,rfl,Nat.zero_le _,Nat.zero_le _,rfl,Nat.le_refl _,Hd gR,S,Hd .nil,Hd b0f⟩
 case round=>
  clear S;obtain⟨i,j,acc,ns,A,c0,J,rfl,rfl,hi1,hj1,hg,hal,HL,S,HO,HP⟩:=hrel;have hA:=HC0.out.1.mono HL.out;have hB:=HC0.out.2.mono HL.out;by_cases h1:i<m.length
  ·obtain⟨p,hp⟩:∃p,m[i]?=some p:=gx h1;obtain⟨x,hx⟩:∃x,nsA[i]?=some x:=gx b1j;obtain⟨b1,o1,rfl,hX⟩:=(HB.out.2.2.1.mono HL.out).ndC hx;have HX1:=Hd (And.intro (Q2t hp) (Q7i (mem_of_getElem? hp)));have hd1:(decide ((i:Int)<(m.length:Int)))=true:=by simp;omega
   by_cases h2:j<m'.length
   ·obtain⟨q,hq⟩:∃q,m'[j]?=some q:=gx h2;obtain⟨y,hy⟩:∃y,nsB[j]?=some y:=gx b1b;obtain⟨b2,o2,rfl,hY⟩:=(HB.out.2.2.2.mono HL.out).ndC hy;have HX2:=Hd (And.intro (Q2t hq) (Q7i (mem_of_getElem? hq)));have HN:=Hd (nd4 ((NdIs.mono (HB.out.1.get hx hp) HL.out:NdIs J x p)) (NdIs.mono (HB.out.2.1.get hy hq) HL.out:NdIs J y q) True.intro HI.out);have hd2:(decide ((j:Int)<(m'.length:Int)))=true:=by simp;omega
    clear hp hx hq hy;go_wp2_with (first|refine wk ?_|refine Ws ?_;clear S;intro W S|refine wn ?_;clear S;intro y W S)
    refine Rg S [] [] [] [0,1,2,3,4,5,6,7,8,9,10,11,12,13,14,15] 1 fun W S=>?_;refine tk9 ?_;refine Wr [] 0 16 fun K hK=>?_;go_simp;refine got S (Q8s HN.out.1.1 HN.out.2.1.1) ?_;clear S;intro W S;refine Ey ?_;obtain⟨ab,hab⟩:∃ab,ab=plt p.1 q.1:=⟨_,rfl⟩
    rw[<-hab];have HAB:=Hd hab.symm;clear hab;cases ab with
    |true=>
     go_wp2_with (first|refine wk ?_|refine Ws ?_;clear S;intro W S|refine wn ?_;clear S;intro y W S)
     refine Rg S [(bo,[.slice A acc.length c0],.t 314)] [] [16] [0,1,2,3,4,5,6,7,8,9,10,11] 5 fun W S=>?_;refine tk9 ?_;refine Wr [] 4 12 fun K hK=>?_;refine Q1s S rfl underlying312 rfl ?_;clear S;intro y1 W S;refine Yw [14,15] 1 13 ?_;intro K hK;refine Q1m S rfl rfl rfl underlying312 Z1o rfl om ?_;clear S;intro A1 c1 W S;refine Hk ?_;refine tk9 ?_;refine Cl 16 fun K hK=>?_;refine Q0j (v:=.slice A1 (acc.length+1) c1) S rfl rfl rfl rfl ?_;clear S;intro W S;refine hK.out _ _ (NoPanic.normal ?_);clear hK K;go_wp2_with (first|refine wk ?_|refine Ws ?_;clear S;intro W S|refine wn ?_;clear S;intro y W S)
     go_roundg ((m.length -(i+1))+(m'.length -(j)))
     case measure=>omega
     case rel=>exact⟨i+1,j,acc++[p],ns++[x],_,_,J,rfl,rfl,by omega,by omega,rfl,by(try simp only[length_append,length_cons,length_nil]);omega,HL,b0e,Hd (Q1e HO.out HN.out.1),Hd (by have:=HP.out;rw[HX1.out.1,HX2.out.1]at this;obtain⟨p1,p2⟩:=p;obtain⟨q1,q2⟩:=q;rw[Q2k]at this;(try rw[HX1.out.1]);(try rw[HX2.out.1]);simp only[HAB.out,Bool.false_eq_true,if_true,if_false]at this;rw[<-this];(try simp only[append_assoc,cons_append,nil_append]))⟩
    |false=>
     go_wp2_with (first|refine wk ?_|refine Ws ?_;clear S;intro W S|refine wn ?_;clear S;intro y W S)
     refine Rg S [] [] [] [0,1,2,3,4,5,6,7,8,9,10,11,12,13,14,15] 2 fun W S=>?_;refine tk9 ?_;refine Wr [17] 0 16 fun K hK=>?_;go_simp;refine got S (Q8s HN.out.2.1.1 HN.out.1.1) ?_;clear S;intro W S;refine Hk ?_;refine tk9 ?_;refine En ?_;obtain⟨ba,hba⟩:∃ba,ba=plt q.1 p.1:=⟨_,rfl⟩
     rw[<-hba];have HBA:=Hd hba.symm;clear hba;cases ba with
     |true=>
      go_wp2_with (first|refine wk ?_|refine Ws ?_;clear S;intro W S|refine wn ?_;clear S;intro y W S)
      refine Rg S [(bo,[.slice A acc.length c0],.t 314)] [] [16] [0,1,2,3,4,5,6,7,8,9,10,11] 5 fun W S=>?_;refine tk9 ?_;refine Wr [] 4 12 fun K hK=>?_;refine Q1s S rfl underlying312 rfl ?_;clear S;intro y1 W S;refine Yw [14,15] 1 13 ?_;intro K hK;refine Q1m S rfl rfl rfl underlying312 Z1o rfl om ?_;clear S;intro A1 c1 W S;refine Hk ?_;refine tk9 ?_;refine Cl 16 fun K hK=>?_;refine Q0j (v:=.slice A1 (acc.length+1) c1) S rfl rfl rfl rfl ?_;clear S;intro W S;refine hK.out _ _ (NoPanic.normal ?_);clear hK K;go_wp2_with (first|refine wk ?_|refine Ws ?_;clear S;intro W S|refine wn ?_;clear S;intro y W S)
      go_roundg ((m.length -(i))+(m'.length -(j+1)))
      case measure=>omega
      case rel=>exact⟨i,j+1,acc++[q],ns++[y],_,_,J,rfl,rfl,by omega,by omega,rfl,by(try simp only[length_append,length_cons,length_nil]);omega,HL,b0e,Hd (Q1e HO.out HN.out.2.1),Hd b0r⟩
     |false=>
      go_wp2_with (first|refine wk ?_|refine Ws ?_;clear S;intro W S|refine wn ?_;clear S;intro y W S)
      refine Rg S [(bo,[.slice A acc.length c0],.t 314)] [] [35] [0,1,2,3,4,5,6,7,8,9,10,11,12,13,14,15,16,17,18,19,20,21,22,23,24,25,26,27,28] 7 fun W S=>?_;refine tk9 ?_;refine Wr [30] 5 29 fun K hK=>?_;go_simp;refine Q0a S (HN.out.2.2.2 _ _ _ _ _ HN.out.1.2 HN.out.2.1.2 b1a b1a) ?_;rintro r K3 L' R' W' hle2 ⟨rfl,rfl,rb,rfl,hr⟩ S2;rw[nil_append,nil_append]at S2;clear S;have S:=S2;clear S2;refine Hk ?_;refine tk9 ?_;refine Wr [] 4 31 fun K hK=>?_;refine Q1s S rfl underlying312 rfl ?_;clear S;intro y1 W S;refine Yw [33,34] 1 32 ?_;intro K hK;refine Q1m S rfl rfl rfl underlying312 Z1o rfl om ?_;clear S;intro A1 c1 W S;refine Hk ?_;refine tk9 ?_;refine Cl 35 fun K hK=>?_;refine Q0j (v:=.slice A1 (acc.length+1) c1) S rfl rfl rfl rfl ?_;clear S;intro W S;refine hK.out _ _ (NoPanic.normal ?_);clear hK K;go_wp2_with (first|refine wk ?_|refine Ws ?_;clear S;intro W S|refine wn ?_;clear S;intro y W S)
      go_roundg ((m.length -(i+1))+(m'.length -(j+1)))
      case measure=>omega
      case rel=>exact⟨i+1,j+1,acc++[(p.1,p.2.union q.2)],ns++[(x.1,rb)],_,_,K3,rfl,rfl,by omega,by omega,rfl,by(try simp only[length_append,length_cons,length_nil]);omega,Hd (gT HL.out hle2),b0e,Hd (Q1e (HO.out.imp fun _ _ k=>NdIs.mono k hle2) (show NdIs K3 (x.1,rb) _ from⟨HN.out.1.1.mono hle2,hr⟩)),Hd b0r⟩
   ·have hj2:j=m'.length:=by omega
    subst hj2;have hci:¬cA=i:=by omega
    go_wp2_with (first|refine wk ?_|refine Ws ?_;clear S;intro W S|refine wn ?_;clear S;intro y W S)
    refine Rg S [(bo,[.slice A acc.length c0],.t 314)] [] [14] [0,1,2,3,4,5,6,7,8,9,10] 4 fun W S=>?_;refine tk9 ?_;refine Wr [12,13] 1 11 fun K hK=>?_;refine Z0t S rfl rfl rfl underlying312 Z1o (Q0u.restN Q6m (l:=nsA) (i:=i) (HB.out.2.2.1.mono HL.out) S.out.inw b0t HB.out.1.length) nd_one om ?_;clear S;intro A1 c1 W S;refine Hk ?_;refine tk9 ?_;refine Cl 14 fun K hK=>?_;refine Q0j (v:=.slice A1 (acc.length+(m.length -i)) c1) S rfl rfl rfl rfl ?_;clear S;intro W S;refine hK.out _ _ (NoPanic.normal ?_);clear hK K;go_wp2_with (first|refine wk ?_|refine Ws ?_;clear S;intro W S|refine wn ?_;clear S;intro y W S)
    go_ret;obtain⟨K1,a1,c1',l1,e1,g1,g2,f1,S1⟩:=S.out.rfreeze;simp only at e1;cases e1;obtain⟨K2,l2,e2,S2⟩:=S1.freeze;have e:=HP.out;simp only[List.drop_length,Z6i,Z6z,append_nil]at e;have hlen:(acc.length+(m.length -i))=(Q2k m m').length:=by rw[<-e];simp only[length_append,length_drop]
    exact z0z
  ·have hi2:i=m.length:=by omega
   subst hi2;by_cases h2:j<m'.length
   ·obtain⟨q,hq⟩:∃q,m'[j]?=some q:=gx h2;obtain⟨y,hy⟩:∃y,nsB[j]?=some y:=gx b1b;obtain⟨b2,o2,rfl,hY⟩:=(HB.out.2.2.2.mono HL.out).ndC hy;have hd2:(decide ((j:Int)<(m'.length:Int)))=true:=by simp;omega
    clear hq hy;have hci:¬cB=j:=by omega
    go_wp2_with (first|refine wk ?_|refine Ws ?_;clear S;intro W S|refine wn ?_;clear S;intro y W S)
    refine Rg S [(bo,[.slice A acc.length c0],.t 314)] [] [14] [0,1,2,3,4,5,6,7,8,9,10] 4 fun W S=>?_;refine tk9 ?_;refine Wr [12,13] 1 11 fun K hK=>?_;refine Z0t S rfl rfl rfl underlying312 Z1o (Q0u.restN Q6m (l:=nsB) (i:=j) (HB.out.2.2.2.mono HL.out) S.out.inw b0t HB.out.2.1.length) nd_one om ?_;clear S;intro A1 c1 W S;refine Hk ?_;refine tk9 ?_;refine Cl 14 fun K hK=>?_;refine Q0j (v:=.slice A1 (acc.length+(m'.length -j)) c1) S rfl rfl rfl rfl ?_;clear S;intro W S;refine hK.out _ _ (NoPanic.normal ?_);clear hK K;go_wp2_with (first|refine wk ?_|refine Ws ?_;clear S;intro W S|refine wn ?_;clear S;intro y W S)
    go_ret;obtain⟨K1,a1,c1',l1,e1,g1,g2,f1,S1⟩:=S.out.rfreeze;simp only at e1;cases e1;obtain⟨K2,l2,e2,S2⟩:=S1.freeze;have e:=HP.out;simp only[List.drop_length,Z6i,Z6z,append_nil]at e;have hlen:(acc.length+(m'.length -j))=(Q2k m m').length:=by rw[<-e];simp only[length_append,length_drop]
    refine ap (gT HL.out (gT l1 l2)) ⟨rfl,rfl,bo,rfl,_,_,ns++nsB.drop j,⟨_,_,_,e2,rfl,by rw[<-hlen];rfl⟩,by rw[<-hlen];exact g1,g2,?_,?_⟩ S2
    ·rw[List.flatMap_append];exact f1.mono l2
    ·rw[<-e];exact(Q8j HO.out ((Q9j j HB.out.2.1).imp fun _ _ k=>NdIs.mono k HL.out)).imp fun _ _ k=>NdIs.mono k (gT l1 l2)
   ·have hj2:j=m'.length:=by omega
    subst hj2;go_wp2_with (first|refine wk ?_|refine Ws ?_;clear S;intro W S|refine wn ?_;clear S;intro y W S)
    go_ret;obtain⟨K1,a1,c1',l1,e1,g1,g2,f1,S1⟩:=S.out.rfreeze;simp only at e1;cases e1;obtain⟨K2,l2,e2,S2⟩:=S1.freeze;have e:=HP.out;simp only[List.drop_length,Z6i,Z6z,append_nil]at e;exact e0b
theorem diffC_x(N:Nat)(IH:SetH 101 FS.diff N)(I:Gh)(sb tb:Nat)(m m':List (PE×FS))(hs:Z0k I sb 1 m)(ht:Z0k I tb 1 m')(hN:FS.cnt.cntC m+FS.cnt.cntC m'<=N)(hl:FS.cnt.cntC m+FS.cnt.cntC m'<=2 ^ 30):
  Ac 157 #[.pointer (some (ad sb 1)),pt tb] I [] []<|N0 fun u K=>∃b:Nat,u=pt b/\Z0k K b 0 (Q4e m m'):=by
 obtain⟨aA,cA,nsA,hA0,hcA,hcA2,hfA,hbA⟩:=hs;obtain⟨aB,cB,nsB,hB0,hcB,hcB2,hfB,hbB⟩:=ht;have hml:m.length+m'.length<=2 ^ 30:=by have:=Q7c m;have:=Q7c m';omega
 have HB:=Hd (nd4 hbA hbB hfA hfB);have HI:=Hd IH;have HC0:=Hd (And.intro hA0 hB0);clear hbA hbB hfA hfB IH hA0 hB0;intro M I0 w W S;have hA:=HC0.out.1;have hB:=HC0.out.2;go_enter func157,ntmps157;go_wp2_with (first|refine wk ?_|refine Ws ?_;clear S;intro W S|refine wn ?_;clear S;intro y W S)
 clear hA hB;obtain⟨bo,hbo⟩:∃bo,bo=y:=⟨_,rfl⟩
 subst hbo;replace S:=Hd (S.out.nilrow 423 5);go_loopg [6,7] (m.length+m'.length) (fun g s6 s7 wr=>∃(i j:Nat) (acc:List (PE×FS)) (ns:List (Nat×Nat)) (A:OA) (c0:Nat) (J:Gh),s6=.int .i64 (i:Nat)/\s7=.int .i64 (j:Nat)/\i<=m.length/\j<=m'.length/\g=(m.length -i)+(m'.length -j)/\acc.length<=i+j/\Hid (I.le J)/\Hid (St M I0 J w wr [(bo,[.slice A acc.length c0],.t 314)] [⟨.slice A acc.length c0,423,5,acc.length,ns.flatMap Q2p⟩])/\Hid (All2 (NdIs J) ns acc)/\Hid (acc++Q4e (m.drop i) (m'.drop j)=Q4e m m'))
 case atStart=>exact⟨0,0,[],[],_,_,I,rfl,rfl,Nat.zero_le _,Nat.zero_le _,rfl,Nat.le_refl _,Hd gR,S,Hd .nil,Hd b0f⟩
 case round=>
  clear S;obtain⟨i,j,acc,ns,A,c0,J,rfl,rfl,hi1,hj1,hg,hal,HL,S,HO,HP⟩:=hrel;have hA:=HC0.out.1.mono HL.out;have hB:=HC0.out.2.mono HL.out;by_cases h1:i<m.length
  ·obtain⟨p,hp⟩:∃p,m[i]?=some p:=gx h1;obtain⟨x,hx⟩:∃x,nsA[i]?=some x:=gx b1j;obtain⟨b1,o1,rfl,hX⟩:=(HB.out.2.2.1.mono HL.out).ndC hx;have HX1:=Hd (And.intro (Q2t hp) (Q7i (mem_of_getElem? hp)));have hd1:(decide ((i:Int)<(m.length:Int)))=true:=by simp;omega
   by_cases h2:j<m'.length
   ·obtain⟨q,hq⟩:∃q,m'[j]?=some q:=gx h2;obtain⟨y,hy⟩:∃y,nsB[j]?=some y:=gx b1b;obtain⟨b2,o2,rfl,hY⟩:=(HB.out.2.2.2.mono HL.out).ndC hy;have HX2:=Hd (And.intro (Q2t hq) (Q7i (mem_of_getElem? hq)));have HN:=Hd (nd4 ((NdIs.mono (HB.out.1.get hx hp) HL.out:NdIs J x p)) (NdIs.mono (HB.out.2.1.get hy hq) HL.out:NdIs J y q) True.intro HI.out);have hd2:(decide ((j:Int)<(m'.length:Int)))=true:=by simp;omega
    clear hp hx hq hy;go_wp2_with (first|refine wk ?_|refine Ws ?_;clear S;intro W S|refine wn ?_;clear S;intro y W S)
    refine Rg S [] [] [] [0,1,2,3,4,5,6,7,8,9,10,11,12,13,14,15,16] 1 fun W S=>?_;refine tk9 ?_;refine Wr [] 0 17 fun K hK=>?_;go_simp;refine got S (Q8s HN.out.1.1 HN.out.2.1.1) ?_;clear S;intro W S;refine Ey ?_;obtain⟨ab,hab⟩:∃ab,ab=plt p.1 q.1:=⟨_,rfl⟩
    rw[<-hab];have HAB:=Hd hab.symm;clear hab;cases ab with
    |true=>
     go_wp2_with (first|refine wk ?_|refine Ws ?_;clear S;intro W S|refine wn ?_;clear S;intro y W S)
     refine Rg S [(bo,[.slice A acc.length c0],.t 314)] [] [26] [0,1,2,3,4,5,6,7,8,9,10,11,12,13,14,15,16,17,18,19,20,21] 5 fun W S=>?_;refine tk9 ?_;refine Wr [] 4 22 fun K hK=>?_;refine Q1s S rfl underlying312 rfl ?_;clear S;intro y1 W S;refine Yw [24,25] 1 23 ?_;intro K hK;refine Q1m S rfl rfl rfl underlying312 Z1o rfl om ?_;clear S;intro A1 c1 W S;refine Hk ?_;refine tk9 ?_;refine Cl 26 fun K hK=>?_;refine Q0j (v:=.slice A1 (acc.length+1) c1) S rfl rfl rfl rfl ?_;clear S;intro W S;refine hK.out _ _ (NoPanic.normal ?_);clear hK K;go_wp2_with (first|refine wk ?_|refine Ws ?_;clear S;intro W S|refine wn ?_;clear S;intro y W S)
     go_roundg ((m.length -(i+1))+(m'.length -(j)))
     case measure=>omega
     case rel=>exact⟨i+1,j,acc++[p],ns++[x],_,_,J,rfl,rfl,by omega,by omega,rfl,by(try simp only[length_append,length_cons,length_nil]);omega,HL,b0e,Hd (Q1e HO.out HN.out.1),Hd (by have:=HP.out;rw[HX1.out.1,HX2.out.1]at this;obtain⟨p1,p2⟩:=p;obtain⟨q1,q2⟩:=q;rw[Q4e]at this;(try rw[HX1.out.1]);(try rw[HX2.out.1]);simp only[HAB.out,Bool.false_eq_true,if_true,if_false]at this;rw[<-this];(try simp only[append_assoc,cons_append,nil_append]))⟩
    |false=>
     go_wp2_with (first|refine wk ?_|refine Ws ?_;clear S;intro W S|refine wn ?_;clear S;intro y W S)
     refine Rg S [] [] [] [0,1,2,3,4,5,6,7,8,9,10,11,12,13,14,15,16] 2 fun W S=>?_;refine tk9 ?_;refine Wr [18] 0 17 fun K hK=>?_;go_simp;refine got S (Q8s HN.out.2.1.1 HN.out.1.1) ?_;clear S;intro W S;refine Hk ?_;refine tk9 ?_;refine En ?_;obtain⟨ba,hba⟩:∃ba,ba=plt q.1 p.1:=⟨_,rfl⟩
     rw[<-hba];have HBA:=Hd hba.symm;clear hba;cases ba with
     |true=>
      go_wp2_with (first|refine wk ?_|refine Ws ?_;clear S;intro W S|refine wn ?_;clear S;intro y W S)
      go_roundg ((m.length -(i))+(m'.length -(j+1)))
      case measure=>omega
      case rel=>exact⟨i,j+1,acc,ns,A,c0,J,rfl,rfl,by omega,by omega,rfl,by(try simp only[length_append,length_cons,length_nil]);omega,HL,(S),HO,Hd (by have:=HP.out;rw[HX1.out.1,HX2.out.1]at this;obtain⟨p1,p2⟩:=p;obtain⟨q1,q2⟩:=q;rw[Q4e]at this;(try rw[HX1.out.1]);(try rw[HX2.out.1]);simp only[HAB.out,HBA.out,Bool.false_eq_true,if_true,if_false]at this;rw[<-this];(try simp only[append_assoc,cons_append,nil_append]))⟩
     |false=>
      go_wp2_with (first|refine wk ?_|refine Ws ?_;clear S;intro W S|refine wn ?_;clear S;intro y W S)
      refine Rg S [] [] [] [0,1,2,3,4,5,6,7,8,9,10,11,12,13,14,15,16] 2 fun W S=>?_;refine tk9 ?_;refine Wr [18] 0 17 fun K hK=>?_;go_simp;refine Q0a S (HN.out.2.2.2 _ _ _ _ _ HN.out.1.2 HN.out.2.1.2 b1a b1a) ?_;rintro r K3 L' R' W' hle2 ⟨rfl,rfl,rb,rfl,hr⟩ S2;rw[nil_append,nil_append]at S2;clear S;have S:=S2;clear S2;refine Hk ?_;refine tk9 ?_;refine En ?_;have hA2:=hA.mono hle2;have hB2:=hB.mono hle2;have hX2:=fun j u hu=>(hX j u hu).mono hle2;have hY2:=fun j u hu=>(hY j u hu).mono hle2;clear hA hB hX hY;have hA:=hA2;have hB:=hB2;have hX:=hX2;have hY:=hY2;clear hA2 hB2 hX2 hY2;go_wp2_with (first|refine wk ?_|refine Ws ?_;clear S;intro W S|refine wn ?_;clear S;intro y W S)
      refine(Z3g hr (by have:=Z4p p.2 q.2;have h1:=HX1.out.2;have h2:=HX2.out.2;omega) _ S.out.inw).mono ?_;rintro e' W ⟨rfl,st⟩;replace S:=Hd (S.out.call st);clear st;obtain⟨br,hbr⟩:∃br,br=(p.2.diff q.2).bare:=⟨_,rfl⟩
      rw[<-hbr];have HBR:=Hd hbr.symm;clear hbr;cases br with
      |true=>
       go_wp2_with (first|refine wk ?_|refine Ws ?_;clear S;intro W S|refine wn ?_;clear S;intro y W S)
       go_roundg ((m.length -(i+1))+(m'.length -(j+1)))
       case measure=>omega
       case rel=>exact⟨i+1,j+1,acc,ns,A,c0,K3,rfl,rfl,by omega,by omega,rfl,by(try simp only[length_append,length_cons,length_nil]);omega,Hd (gT HL.out hle2),(S),Hd (HO.out.imp fun _ _ k=>NdIs.mono k hle2),Hd b0p⟩
      |false=>
       go_wp2_with (first|refine wk ?_|refine Ws ?_;clear S;intro W S|refine wn ?_;clear S;intro y W S)
       refine Rg S [(bo,[.slice A acc.length c0],.t 314)] [] [19] [0,1,2,3,4,5,6,7,8,9,10,11,12,13,14] 5 fun W S=>?_;refine tk9 ?_;refine Wr [] 4 15 fun K hK=>?_;refine Q1s S rfl underlying312 rfl ?_;clear S;intro y1 W S;refine Yw [17,18] 1 16 ?_;intro K hK;refine Q1m S rfl rfl rfl underlying312 Z1o rfl om ?_;clear S;intro A1 c1 W S;refine Hk ?_;refine tk9 ?_;refine Cl 19 fun K hK=>?_;refine Q0j (v:=.slice A1 (acc.length+1) c1) S rfl rfl rfl rfl ?_;clear S;intro W S;refine hK.out _ _ (NoPanic.normal ?_);clear hK K;go_wp2_with (first|refine wk ?_|refine Ws ?_;clear S;intro W S|refine wn ?_;clear S;intro y W S)
       go_roundg ((m.length -(i+1))+(m'.length -(j+1)))
       case measure=>omega
       case rel=>exact⟨i+1,j+1,acc++[(p.1,p.2.diff q.2)],ns++[(x.1,rb)],_,_,K3,rfl,rfl,by omega,by omega,rfl,by(try simp only[length_append,length_cons,length_nil]);omega,Hd (gT HL.out hle2),b0e,Hd (Q1e (HO.out.imp fun _ _ k=>NdIs.mono k hle2) (show NdIs K3 (x.1,rb) _ from⟨HN.out.1.1.mono hle2,hr⟩)),Hd b0p⟩
   ·have hj2:j=m'.length:=by omega
    subst hj2;have hci:¬cA=i:=by omega
    go_wp2_with (first|refine wk ?_|refine Ws ?_;clear S;intro W S|refine wn ?_;clear S;intro y W S)
    refine Rg S [(bo,[.slice A acc.length c0],.t 314)] [] [14] [0,1,2,3,4,5,6,7,8,9,10] 4 fun W S=>?_;refine tk9 ?_;refine Wr [12,13] 1 11 fun K hK=>?_;refine Z0t S rfl rfl rfl underlying312 Z1o (Q0u.restN Q6m (l:=nsA) (i:=i) (HB.out.2.2.1.mono HL.out) S.out.inw b0t HB.out.1.length) nd_one om ?_;clear S;intro A1 c1 W S;refine Hk ?_;refine tk9 ?_;refine Cl 14 fun K hK=>?_;refine Q0j (v:=.slice A1 (acc.length+(m.length -i)) c1) S rfl rfl rfl rfl ?_;clear S;intro W S;refine hK.out _ _ (NoPanic.normal ?_);clear hK K;go_wp2_with (first|refine wk ?_|refine Ws ?_;clear S;intro W S|refine wn ?_;clear S;intro y W S)
    go_ret;obtain⟨K1,a1,c1',l1,e1,g1,g2,f1,S1⟩:=S.out.rfreeze;simp only at e1;cases e1;obtain⟨K2,l2,e2,S2⟩:=S1.freeze;have e:=HP.out;simp only[List.drop_length,X7k,X7t,append_nil]at e;have hlen:(acc.length+(m.length -i))=(Q4e m m').length:=by rw[<-e];simp only[length_append,length_drop]
    exact z0z
  ·have hi2:i=m.length:=by omega
   subst hi2;go_wp2_with (first|refine wk ?_|refine Ws ?_;clear S;intro W S|refine wn ?_;clear S;intro y W S)
   go_ret;obtain⟨K1,a1,c1',l1,e1,g1,g2,f1,S1⟩:=S.out.rfreeze;simp only at e1;cases e1;obtain⟨K2,l2,e2,S2⟩:=S1.freeze;have e:=HP.out;simp only[List.drop_length,X7k,X7t,append_nil]at e;exact e0b
end
end Go.Proofs.YtbmklgemmjgjfaaGreat
