/- Part 38: Vco, Sop, Eqp. -/
import Derived.Test.YtbmklgemmjgjfaaGreatT29
import Derived.Test.YtbmklgemmjgjfaaGreatT34
namespace Go.Proofs.YtbmklgemmjgjfaaGreat
open List (cons_append length_nil nil_append)
open Go.RowKit Go.Maps Tryz
set_option linter.unusedVariables false
set_option linter.unusedSimpArgs false
set_option maxRecDepth 100000
set_option maxHeartbeats 32000000
section
theorem same_addr(a:Addr)(w:World):(sameAddr a a).run prog w=.ok true w:=by
 unfold sameAddr;simp
theorem eqp105(a:Addr)(w:World):(Op.equal 105 (.pointer (some a)) (.pointer (some a))).run prog w=.ok true w:=by
 unfold Op.equal Op.maxDepth Op.equalIn;go_simp;exact same_addr a w
@[go_sem] theorem neqp105(a:Addr)(w:World):(binOp .neq 105 (.pointer (some a)) (.pointer (some a))).run prog w=.ok (.bool false) w:=by
 unfold binOp;go_simp;rw[eqp105];rfl
variable{J:Gh}
theorem X9b:Ac 100 #[sn] J [] [] fun u K L' R'=>K=J/\R'=[]/\∃st,u=pt st/\L'=[(st,[sn,sn],.t 316)]:=by
 intro M I w W S;go_enter func100,ntmps100;go_wp2_with (first|refine wk ?_|refine wn ?_;clear S;intro st W S)
 go_loopg [10] 0 (fun _ s10 wr=>s10=.int .i64 0/\Hid (St M I J w wr [(st,[sn,sn],.t 316)] []))
 case atStart=>exact⟨rfl,S⟩
 case round=>
  clear S;obtain⟨rfl,S⟩:=hrel;go_wp2_with fail
  go_ret;exact ap gR ⟨rfl,rfl,st,rfl,rfl⟩ S.out
theorem filter_x{c:Value}(w:World)(hi:J.In w):Calls prog 153 #[c,.nilIface] w (Got Nix J w c):=by
 refine Q0c (M:=Nix) hi ?_;intro W S;go_enter func153,ntmps153;go_wp2_with fail
 refine bT ?_;go_simp;exact⟨rfl,S.out.step⟩
def X4u(K:Gh)(cb:Nat)(s:C3):Prop:=∃rm md aq,K cb=some (.cells #[pt rm,pt md,pt aq] 220 (0,0))/\FSI K rm s.r/\FSI K md s.m/\FSI K aq s.a
variable{s:C3}
theorem X4u.mono{K:Gh}{cb:Nat}(h:X4u J cb s)(l:J.le K):X4u K cb s:=by
 obtain⟨rm,md,aq,h0,h1,h2,h3⟩:=h;exact⟨rm,md,aq,l _ _ h0,h1.mono l,h2.mono l,h3.mono l⟩
theorem S3.new(J:Gh)(rm md aq:Nat):S3 J rm md aq ⟨.nil,.nil,.nil⟩ [(rm,[sn,sn],.t 316),(md,[sn,sn],.t 316),(aq,[sn,sn],.t 316)] [memRw (sn) [],kidRw (sn) [],memRw (sn) [],kidRw (sn) [],memRw (sn) [],kidRw (sn) []]:=
 ⟨_,_,_,_,_,_,FO.new J rm,FO.new J md,FO.new J aq,List.Perm.refl _,List.Perm.refl _⟩
theorem S3.freeze{M:Nat->Prop}{I:Gh}{w W:World}{L0 L:List Blk}{R0 R:List Rw}{rm md aq:Nat}(h:S3 J rm md aq s L R)(S:St M I J w W (L++L0) (R++R0)):∃K,J.le K/\FSI K rm s.r/\FSI K md s.m/\FSI K aq s.a/\St M I K w W L0 R0:=by
 obtain⟨LR,LM,LA,RR,RM,RA,h1,h2,h3,hL,hR⟩:=h;have S1:=S.perm (hL.symm.append_right L0) (hR.symm.append_right R0);simp only[List.append_assoc]at S1;obtain⟨K1,l1,f1,S2⟩:=h1.freeze S1;obtain⟨K2,l2,f2,S3⟩:=(h2.mono l1).freeze S2;obtain⟨K3,l3,f3,S4⟩:=((h3.mono l1).mono l2).freeze S3;exact⟨K3,gT (gT l1 l2) l3,(f1.mono l2).mono l3,f2.mono l3,f3,S4⟩
theorem cmpTop_s{vl nl sb tb vr nr:Nat}{ul ur:Value}{tl tr:Tr}(hsz:2*(tl.size+tr.size)*(tl.size+tr.size)<2 ^ 29)(hal:Q2d tl tr=true)(hnl:Q1i tl=true)(hnr:Q1i tr=true)(htl:Q0r J ul tl)(htr:Q0r J ur tr)(hvl:J.cell (ad vl 0) ul)(hvr:J.cell (ad vr 0) ur)(hs:Q2c J sb)(hn1:Nm J nl nmDe)(hn2:Nm J nr nmDe)
  (htb:J tb=some (.cells (Q1n vr nr sb).toArray 367 (0,0))):
  Ac 151 #[Q9e vl nl sb,pt tb] J [] []<|N0 fun u K=>∃cb s,u=.tuple #[pt cb,.nilIface]/\X4u K cb s/\Q3e ⟨.nil,.nil,.nil⟩ [] (ARem (some tl) (some tr)) (AMod (some tl) (some tr)) (ARem (some tr) (some tl)) (2*(tl.size+tr.size)*(tl.size+tr.size)) s:=by
 intro M I w W S;have HT:Hid (∀(i:Nat) u,(Q1n vr nr sb)[i]?=some u->J.cell (ad tb i) u):=Hd fun i u h=>⟨_,_,_,htb,rfl,by simpa using h⟩
 have HV:=Hd (nd6 (nd4 hsz hal hnl hnr) (And.intro htl htr) (And.intro hvl hvr) hs trivial (And.intro hn1 hn2));clear hsz hal hnl hnr htl htr hvl hvr hs hn1 hn2 htb;unfold Q9e;simp only[Q1n]at HT;go_enter func151,ntmps151;go_wp2_with (first|refine wk ?_|refine Ws ?_;clear S;intro W S|refine wA ?_;clear S;intro z W S|refine wB ?_;clear S;intro y W S)
 refine Rg S [(z,L1c vl nl sb,.t 367)] [] [] [0,1,2,3,4,5,6] 0 fun W S=>?_;refine tk31 ?_;refine En ?_;go_wp2_with (first|go_at_call 112;refine Q0a S (Z8o (L:=[(z,L1c vl nl sb,.t 367)]) (b1:=z) (o1:=1) (b2:=tb) (o2:=1) (Sees.blk (List.mem_cons_self ..) fun i u h=>b0l) (Sees.frz fun i u h=>HT.out (1+i) u b0l) HV.out.2.2.2.2.2.1 HV.out.2.2.2.2.2.2) ?_;rintro r5 K5 L5 R5 W5 hle5 ⟨hKJ,rfl,rfl,rfl⟩ S2;have hJK:=hKJ.symm;subst hJK;clear S;have S:=S2;clear S2;simp only[cons_append,nil_append,List.append_nil]at S|go_at_call 100;refine Q0a S X9b ?_;rintro r5 K5 L5 R5 W5 hle5 ⟨hKJ,rfl,q,rfl,rfl⟩ S2;have hJK:=hKJ.symm;subst hJK;clear S;have S:=S2;clear S2;replace S:=sa S;(first|((fail_if_success (revert s1));obtain⟨s1,hs1⟩:∃s1,s1=q:=⟨_,rfl⟩;subst hs1)|((fail_if_success (revert s2));obtain⟨s2,hs2⟩:∃s2,s2=q:=⟨_,rfl⟩;subst hs2)|(obtain⟨s3,hs3⟩:∃s3,s3=q:=⟨_,rfl⟩;subst hs3))|go_at_call 113;refine(Q0g (Q7s _) S.out.inw).mono ?_;rintro e W' ⟨rfl,st⟩;(obtain⟨al,hal⟩:∃al,al=W.heap.size:=⟨_,rfl⟩);rw[<-hal];clear hal;replace S:=Hd (S.out.call st);clear st|refine wk ?_|refine wlf (HT.out 0 _ rfl) S ?_|refine Ws ?_;clear S;intro W S|refine wn ?_;clear S;(first|(fail_if_success revert y);intro y W S|(fail_if_success revert b);intro b W S|(intro cb W S0;obtain⟨K1,hle1,hk1,S⟩:=S0.out.freeze;clear S0;replace S:=Hd S)))
 replace S:=Hd (((((((S.out.nilrow 423 5).nilrow 358 4).nilrow 423 5).nilrow 358 4).nilrow 423 5).nilrow 358 4).nilrow 358 4);have hbd:2*(tl.size+tr.size)*(tl.size+tr.size)<2 ^ 29:=HV.out.1.1;have hd:=dle2 (tl.size+tr.size) tl;have hcall:=call (tl.size+tr.size) K1 (some ul) (some ur) (some tl) (some tr) vl vr [] (.some ul tl vl (HV.out.2.1.1.mono hle1) (.inl (HV.out.2.2.1.1.mono hle1)) HV.out.1.2.2.1) (.some ur tr vr (HV.out.2.1.2.mono hle1) (.inl (HV.out.2.2.1.2.mono hle1)) HV.out.1.2.2.2) (.inl rfl) (fun x y e1 e2=>by cases e1;cases e2;exact HV.out.1.2.1) (Nat.le_refl _)
  (tl.size+tr.size) (tl.size+tr.size) b sb nl cb al s1 s2 s3 0 none [] [(s1,[sn,sn],.t 316),(s2,[sn,sn],.t 316),(s3,[sn,sn],.t 316)] [] [memRw (sn) [],kidRw (sn) [],memRw (sn) [],kidRw (sn) [],memRw (sn) [],kidRw (sn) []] ⟨.nil,.nil,.nil⟩ [] [] none 0 (Nat.le_refl _) ⟨Nat.zero_le _,by have h1:=Q1l tl;have h2:=Nat.mul_le_mul_right (tl.size+tr.size) (show 1<=2*(tl.size+tr.size) by omega);omega⟩ (HV.out.2.2.2.1.mono hle1) (HV.out.2.2.2.2.2.1.mono hle1)
  (fun i u h=>⟨_,_,_,hk1,rfl,by simpa using h⟩) .nil (S3.new K1 s1 s2 s3) ⟨FS.ok_nil,FS.ok_nil,FS.ok_nil⟩ .nil (by simp[osz]) ⟨by simp only[osz,FS.nil,FS.cnt,FS.cnt.cntC,length_nil];omega,by simp only[osz,FS.nil,FS.cnt,FS.cnt.cntC,length_nil];omega,by simp only[osz,FS.nil,FS.cnt,FS.cnt.cntC,length_nil];omega⟩
 simp only[vif_s,cc,pathRw,memRw,kidRw,List.flatMap_nil,length_nil,nil_append,cons_append,osz]at hcall;clear hbd hd;refine Q0a S hcall ?_;clear hcall;rintro r K2 L' R2 W' hle2 ⟨rfl,s',il,n2,sp2,PB2,PR2,SL2,SR2,pa2,pc2,hn2,hsp2,hp2,hF2,hG2,rfl,rfl⟩ S2;have HP:=Hd (nd3 hF2 hG2 hle2);clear S hn2 hsp2 hp2 hF2 hG2;have S:=S2;clear S2;simp only[cc,cons_append,nil_append,List.append_nil,List.append_assoc,pathRw]at S;go_wp2_with (refine wk ?_)
 obtain⟨K3,hle3,f1,f2,f3,S3⟩:=HP.out.1.freeze (show St _ _ _ _ _ (SL2++[]) (SR2++[])from keep S);refine bT ?_;exact ap (gT (gT hle1 HP.out.2.2) hle3) ⟨rfl,rfl,cb,s',rfl,⟨s1,s2,s3,hle3 _ _ (HP.out.2.2 _ _ hk1),f1,f2,f3⟩,HP.out.2.1.conv (fun r=>⟨Iff.rfl,Iff.rfl,Iff.rfl⟩) (Nat.sub_le _ _)⟩ S3
end
section
theorem X6t{J:Gh}{b j:Nat}{v:Value}(h:J.cell (ad b j) v)(i:Nat)(u:Value)(hu:[v][i]?=some u):J.cell (ad b (j+i)) u:=by
 match i,hu with
 |0,hu=>cases hu;exact h
 |i+1,hu=>simp at hu
theorem inter_t(N:Nat)(IH:SetH 154 FS.inter N)(I:Gh)(b1 b2:Nat)(s t:FS)(hs:FSI I b1 s)(ht:FSI I b2 t)(hN:s.cnt+t.cnt<=N)(hl:s.cnt+t.cnt<=2 ^ 30):
  Ac 154 #[pt b1,pt b2] I [] []<|N0 fun u K=>∃b:Nat,u=pt b/\FSI K b (FS.inter s t):=by
 cases s with|mk m c=>
 cases t with|mk n d=>
 have HM:=Hd (nd4 hs.inv ht.inv hN hl);clear hs ht hN hl;intro M I0 w W S;go_enter func154,ntmps154;go_wp2_with fail
 refine Rg S [] [] [] [0,1,2,3,4,5,9,10,11,12,13,14] 9 fun W S=>?_;refine tk24 ?_;refine Wr [] 8 6 fun KK hKK=>?_;go_simp;refine Q0a S (interL_x I b1 0 b2 0 m n HM.out.1.1 HM.out.2.1.1 b0u) ?_;rintro r K1 L' R' W' l1 ⟨rfl,rfl,p1,rfl,aM,cM,bsM,hM,gM1,gM2,gM3,gM4⟩ S2;rw[nil_append,nil_append]at S2;clear S;have S:=S2;clear S2;refine Hy ?_;refine grows [7,8] 6 S l1 kr rfl kr ?_;refine tk24 ?_;refine Wr [] 5 15 fun KK hKK=>?_;go_simp;refine Q0a S (interC_x N IH K1 b1 b2 c d (HM.out.1.2.mono l1) (HM.out.2.1.2.mono l1) b1x b0u) ?_;rintro r K2 L' R' W' l2 ⟨rfl,rfl,p2,rfl,aC,cC,nsC,hC,gC1,gC2,gC3,gC4⟩ S2;rw[nil_append,nil_append]at S2;clear S;have S:=S2;clear S2;refine Hy ?_;refine grows [16,17,18] 2 S l2 kr rfl kr ?_;refine tk24 ?_;refine Wr [20] 0 19 fun KK hKK=>?_;refine Z6g S rfl rfl ?_;clear S;intro pb W S;refine Hk ?_;refine tk24 ?_;refine En ?_;go_wp2_with fail
 go_ret;obtain⟨K3,l3,e3,S3⟩:=S.out.freeze;refine ap (gT l1 (gT l2 l3)) ⟨rfl,rfl,pb,rfl,?_⟩ S3;unfold FS.inter;exact e0j
theorem X0x:∀N,SetH 154 FS.inter N
 |0=>fun I b1 b2 s t h1 h2 hN=>absurd hN (Nat.not_lt_zero _)
 |N+1=>fun I b1 b2 s t h1 h2 hN hl=>inter_t N (X0x N) I b1 b2 s t h1 h2 om hl
variable{s t:FS}{b1 b2:Nat}{I:Gh}
theorem inter_x(h1:FSI I b1 s)(h2:FSI I b2 t)(hl:s.cnt+t.cnt<=2 ^ 30):
  Ac 154 #[pt b1,pt b2] I [] []<|N0 fun u K=>∃b:Nat,u=pt b/\FSI K b (FS.inter s t):=X0x _ I b1 b2 s t h1 h2 (Nat.lt_succ_self _) hl
theorem union_t(N:Nat)(IH:SetH 102 FS.union N)(I:Gh)(b1 b2:Nat)(s t:FS)(hs:FSI I b1 s)(ht:FSI I b2 t)(hN:s.cnt+t.cnt<=N)(hl:s.cnt+t.cnt<=2 ^ 30):
  Ac 102 #[pt b1,pt b2] I [] []<|N0 fun u K=>∃b:Nat,u=pt b/\FSI K b (FS.union s t):=by
 cases s with|mk m c=>
 cases t with|mk n d=>
 have HM:=Hd (nd4 hs.inv ht.inv hN hl);clear hs ht hN hl;intro M I0 w W S;go_enter func102,ntmps102;go_wp2_with fail
 refine Rg S [] [] [] [0,1,2,3,4,5,9,10,11,12,13,14] 9 fun W S=>?_;refine tk24 ?_;refine Wr [] 8 6 fun KK hKK=>?_;go_simp;refine Q0a S (unionL_x I b1 0 b2 0 m n HM.out.1.1 HM.out.2.1.1 b0u) ?_;rintro r K1 L' R' W' l1 ⟨rfl,rfl,p1,rfl,aM,cM,bsM,hM,gM1,gM2,gM3,gM4⟩ S2;rw[nil_append,nil_append]at S2;clear S;have S:=S2;clear S2;refine Hy ?_;refine grows [7,8] 6 S l1 kr rfl kr ?_;refine tk24 ?_;refine Wr [] 5 15 fun KK hKK=>?_;go_simp;refine Q0a S (unionC_x N IH K1 b1 b2 c d (HM.out.1.2.mono l1) (HM.out.2.1.2.mono l1) b1x b0u) ?_;rintro r K2 L' R' W' l2 ⟨rfl,rfl,p2,rfl,aC,cC,nsC,hC,gC1,gC2,gC3,gC4⟩ S2;rw[nil_append,nil_append]at S2;clear S;have S:=S2;clear S2;refine Hy ?_;refine grows [16,17,18] 2 S l2 kr rfl kr ?_;refine tk24 ?_;refine Wr [20] 0 19 fun KK hKK=>?_;refine Z6g S rfl rfl ?_;clear S;intro pb W S;refine Hk ?_;refine tk24 ?_;refine En ?_;go_wp2_with fail
 go_ret;obtain⟨K3,l3,e3,S3⟩:=S.out.freeze;refine ap (gT l1 (gT l2 l3)) ⟨rfl,rfl,pb,rfl,?_⟩ S3;unfold FS.union;exact e0j
theorem X0u:∀N,SetH 102 FS.union N
 |0=>fun I b1 b2 s t h1 h2 hN=>absurd hN (Nat.not_lt_zero _)
 |N+1=>fun I b1 b2 s t h1 h2 hN hl=>union_t N (X0u N) I b1 b2 s t h1 h2 om hl
theorem union_x(h1:FSI I b1 s)(h2:FSI I b2 t)(hl:s.cnt+t.cnt<=2 ^ 30):
  Ac 102 #[pt b1,pt b2] I [] []<|N0 fun u K=>∃b:Nat,u=pt b/\FSI K b (FS.union s t):=X0u _ I b1 b2 s t h1 h2 (Nat.lt_succ_self _) hl
theorem diff_t(N:Nat)(IH:SetH 101 FS.diff N)(I:Gh)(b1 b2:Nat)(s t:FS)(hs:FSI I b1 s)(ht:FSI I b2 t)(hN:s.cnt+t.cnt<=N)(hl:s.cnt+t.cnt<=2 ^ 30):
  Ac 101 #[pt b1,pt b2] I [] []<|N0 fun u K=>∃b:Nat,u=pt b/\FSI K b (FS.diff s t):=by
 cases s with|mk m c=>
 cases t with|mk n d=>
 have HM:=Hd (nd4 hs.inv ht.inv hN hl);clear hs ht hN hl;intro M I0 w W S;go_enter func101,ntmps101;go_wp2_with fail
 refine Rg S [] [] [] [0,1,2,3,4,5,9,10,11,12] 9 fun W S=>?_;refine tk24 ?_;refine Wr [] 8 6 fun KK hKK=>?_;go_simp;refine Q0a S (diffL_x I b1 0 b2 0 m n HM.out.1.1 HM.out.2.1.1 b0u) ?_;rintro r K1 L' R' W' l1 ⟨rfl,rfl,p1,rfl,aM,cM,bsM,hM,gM1,gM2,gM3,gM4⟩ S2;rw[nil_append,nil_append]at S2;clear S;have S:=S2;clear S2;refine Hy ?_;refine grows [7,8] 6 S l1 kr rfl kr ?_;refine tk24 ?_;refine Wr [] 5 13 fun KK hKK=>?_;go_simp;refine Q0a S (diffC_x N IH K1 b1 b2 c d (HM.out.1.2.mono l1) (HM.out.2.1.2.mono l1) b1x b0u) ?_;rintro r K2 L' R' W' l2 ⟨rfl,rfl,p2,rfl,aC,cC,nsC,hC,gC1,gC2,gC3,gC4⟩ S2;rw[nil_append,nil_append]at S2;clear S;have S:=S2;clear S2;refine Hy ?_;refine grows [14,15,16] 2 S l2 kr rfl kr ?_;refine tk24 ?_;refine Wr [18] 0 17 fun KK hKK=>?_;refine Z6g S rfl rfl ?_;clear S;intro pb W S;refine Hk ?_;refine tk24 ?_;refine En ?_;go_wp2_with fail
 go_ret;obtain⟨K3,l3,e3,S3⟩:=S.out.freeze;refine ap (gT l1 (gT l2 l3)) ⟨rfl,rfl,pb,rfl,?_⟩ S3;unfold FS.diff;exact e0j
theorem X7v:∀N,SetH 101 FS.diff N
 |0=>fun I b1 b2 s t h1 h2 hN=>absurd hN (Nat.not_lt_zero _)
 |N+1=>fun I b1 b2 s t h1 h2 hN hl=>diff_t N (X7v N) I b1 b2 s t h1 h2 om hl
theorem diff_x(h1:FSI I b1 s)(h2:FSI I b2 t)(hl:s.cnt+t.cnt<=2 ^ 30):
  Ac 101 #[pt b1,pt b2] I [] []<|N0 fun u K=>∃b:Nat,u=pt b/\FSI K b (FS.diff s t):=X7v _ I b1 b2 s t h1 h2 (Nat.lt_succ_self _) hl
end
section
def numK(k:Int):Bool:=k==2||k==3
theorem z0n{P:Prop}(h:P:=by
 go_wp2_with (first|refine wk ?_|refine Ws ?_;clear S;intro W S|refine wn ?_;clear S;intro _ W S)
 go_ret;exact⟨by unfold numK;rw[h1];rfl,S.out.step⟩):P:=h
theorem Z2m(I:Gh)(v:V6)(w:World)(hi:I.In w):Calls prog 131 #[v.agg] w (Got Nix I w (.bool (numK v.k))):=by
 unfold V6.agg;refine Q0c (M:=Nix) hi ?_;intro W S;go_enter func131,ntmps131;cases h1:(v.k==2)with
 |true=>
  exact z0n
 |false=>
  exact z0n
theorem z0o{P:Prop}(h:P:=by
 go_wp2_with (first|refine wk ?_|refine Ws ?_;clear S;intro W S|refine wn ?_;clear S;intro _ W S)
 go_ret;exact⟨by simp,S.out.step⟩):P:=h
theorem eqFloat_x(I:Gh)(v:V6)(w:World)(hi:I.In w):Calls prog 132 #[v.agg] w (Got Nix I w (.float .f64 (if(v.k==2)=true then i2f v.n else v.f))):=by
 unfold V6.agg i2f;refine Q0c (M:=Nix) hi ?_;intro W S;go_enter func132,ntmps132;cases h1:(v.k==2)with
 |true=>
  exact z0o
 |false=>
  exact z0o
def EqpH(N:Nat):Prop:=∀(J:Gh) (v u:V6) (t s:Tr) (w:World),t.bulk<N->t.bulk<2 ^ 30->s.bulk<2 ^ 30->J.In w->VIs J v t.iv->VIs J u s.iv->Calls prog 78 #[v.agg,u.agg] w (Got Nix J w (.bool (eqT t s)))
variable{t s:Tr}
theorem eqT_num(h1:numK t.kind=true)(h2:numK s.kind=true):eqT t s=if(((t.kind:Int)==2)&&((s.kind:Int)==2))=true then t.iv.n==s.iv.n else feq (if((t.kind:Int)==2)=true then i2f t.iv.n else t.iv.f) (if((s.kind:Int)==2)=true then i2f s.iv.n else s.iv.f):=by
 cases t<;>cases s<;>first|(exfalso;revert h1;simp[numK,Tr.kind];done)|(exfalso;revert h2;simp[numK,Tr.kind];done)|(simp[eqT,Tr.kind,Tr.iv,IV.n,IV.f])
theorem eqT_kind(h:¬(numK t.kind=true/\numK s.kind=true))(hk:t.kind≠s.kind):eqT t s=false:=by
 cases t<;>cases s<;>first|rfl|(exact absurd rfl hk)|(exact absurd ⟨rfl,rfl⟩ h)
theorem z0l{P:Prop}(h:P:=by
 go_wp2_with (first|refine wk ?_|refine Ws ?_;clear S;intro W S|refine wn ?_;clear S;(first|(fail_if_success revert b0);intro b0 W S|(fail_if_success revert b1);intro b1 W S|intro _ W S))
 go_region_held3 (fun W=>(W.cell? ⟨b0,0,none⟩=some (.int .i64 v.k)/\W.cell? ⟨b0,1,none⟩=some (.int .i64 v.n)/\W.cell? ⟨b0,2,none⟩=some (.float .f64 v.f)/\W.cell? ⟨b0,3,none⟩=some (.string v.s)/\W.cell? ⟨b0,4,none⟩=some (.slice v.a1 v.n1 v.c1)/\W.cell? ⟨b0,5,none⟩=some (.slice v.a2 v.n2 v.c2))/\(W.cell? ⟨b1,0,none⟩=some (.int .i64 u.k)/\W.cell? ⟨b1,1,none⟩=some (.int .i64 u.n)/\W.cell? ⟨b1,2,none⟩=some (.float .f64 u.f)/\W.cell? ⟨b1,3,none⟩=some (.string u.s)/\W.cell? ⟨b1,4,none⟩=some (.slice u.a1 u.n1 u.c1)/\W.cell? ⟨b1,5,none⟩=some (.slice u.a2 u.n2 u.c2))) (first|exact⟨X7l (St.heap S.out (.tail .head)),X7l (St.heap S.out .head)⟩|exact⟨X7l (St.heap S.out.drew (.tail .head)),X7l (St.heap S.out.drew .head)⟩|go_keep) (first|(go_at_call 132;refine Q4a b0j ?_;clear S;intro S;refine got S (eqFloat_x J _) ?_;clear S;intro W S));go_wp2_with fail
 exact e1k):P:=h
theorem z0m{P:Prop}(h:P:=by
 go_wp2_with (first|refine wk ?_|refine Ws ?_;clear S;intro W S|refine wn ?_;clear S;(first|(fail_if_success revert b0);intro b0 W S|(fail_if_success revert b1);intro b1 W S|intro _ W S))
 go_ret;exact⟨rfl,S.out.step⟩):P:=h
theorem eqp_other(J:Gh)(v u:V6)(t s:Tr)(w:World)(hne:(numK t.kind=true/\numK s.kind=true)\/t.kind≠s.kind)(hi:J.In w)(hv:VIs J v t.iv)(hu:VIs J u s.iv):Calls prog 78 #[v.agg,u.agg] w (Got Nix J w (.bool (eqT t s))):=by
 obtain⟨a1,c1,a2,c2,vs,ev,h1,h2,h3,h4,h5,h6⟩:=hv.kids;obtain⟨d1,e1,d2,e2,us,eu,g1,g2,g3,g4,g5,g6⟩:=hu.kids;have hvk:v.k=t.kind:=by rw[ev]
 have hvn:v.n=t.iv.n:=by rw[ev]
 have hvf:v.f=t.iv.f:=by rw[ev]
 have huk:u.k=s.kind:=by rw[eu]
 have hun:u.n=s.iv.n:=by rw[eu]
 have huf:u.f=s.iv.f:=by rw[eu]
 by_cases hnum:numK t.kind=true/\numK s.kind=true
 ·have hE:=eqT_num hnum.1 hnum.2;rw[<-hvk,<-hvn,<-hvf,<-huk,<-hun,<-huf]at hE;rw[<-hvk,<-huk]at hnum;have HE:=Hd hE;have hn1:=hnum.1;have hn2:=hnum.2;clear hE hnum ev eu h1 h2 h3 h4 h5 h6 g1 g2 g3 g4 g5 g6 hvk hvn hvf huk hun huf hv hu hne;unfold V6.agg;refine Q0c (M:=Nix) hi ?_;intro W S;go_enter func78,ntmps78;go_wp2_with (first|refine wk ?_|refine Ws ?_;clear S;intro W S|refine wn ?_;clear S;(first|(fail_if_success revert b0);intro b0 W S|(fail_if_success revert b1);intro b1 W S|intro _ W S))
  refine got S (Z2m J v) ?_;clear S;intro W S;rw[hn1];go_wp2_with (first|refine wk ?_|refine Ws ?_;clear S;intro W S|refine wn ?_;clear S;(first|(fail_if_success revert b0);intro b0 W S|(fail_if_success revert b1);intro b1 W S|intro _ W S))
  refine got S (Z2m J u) ?_;clear S;intro W S;rw[hn2];cases q1:(v.k==2)with
  |true=>
   cases q2:(u.k==2)with
   |true=>
    go_wp2_with (first|refine wk ?_|refine Ws ?_;clear S;intro W S|refine wn ?_;clear S;(first|(fail_if_success revert b0);intro b0 W S|(fail_if_success revert b1);intro b1 W S|intro _ W S))
    exact e1k
   |false=>
    exact z0l
  |false=>
   cases q2:(u.k==2)with
   |true=>
    exact z0l
   |false=>
    exact z0l
 ·have hfn:∀(X:AW),True:=fun _=>trivial;clear hfn;by_cases hk:t.kind=s.kind
  ·exact absurd hk (hne.resolve_left hnum)
  ·have hE:=eqT_kind hnum hk;have hki:((v.k:Int) != u.k)=true:=by rw[hvk,huk];simp;omega
   rw[hE];have hn2:¬(numK v.k=true/\numK u.k=true):=by rw[hvk,huk];exact hnum
   clear hE hnum ev eu h1 h2 h3 h4 h5 h6 g1 g2 g3 g4 g5 g6 hvk hvn hvf huk hun huf hv hu hk hne;unfold V6.agg;refine Q0c (M:=Nix) hi ?_;intro W S;go_enter func78,ntmps78;go_wp2_with (first|refine wk ?_|refine Ws ?_;clear S;intro W S|refine wn ?_;clear S;(first|(fail_if_success revert b0);intro b0 W S|(fail_if_success revert b1);intro b1 W S|intro _ W S))
   refine got S (Z2m J v) ?_;clear S;intro W S;cases q1:numK v.k with
   |false=>
    exact z0m
   |true=>
    have q2:numK u.k=false:=by
     cases q:numK u.k with
     |false=>rfl
     |true=>exact absurd ⟨q1,q⟩ hn2
    clear hn2;go_wp2_with (first|refine wk ?_|refine Ws ?_;clear S;intro W S|refine wn ?_;clear S;(first|(fail_if_success revert b0);intro b0 W S|(fail_if_success revert b1);intro b1 W S|intro _ W S))
    refine got S (Z2m J u) ?_;clear S;intro W S;rw[q2];exact z0m
end
end Go.Proofs.YtbmklgemmjgjfaaGreat
