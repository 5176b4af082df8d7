/- Part 34: Vcm, Vcn. -/
import Derived.Test.YtbmklgemmjgjfaaGreatT28
import Derived.Test.YtbmklgemmjgjfaaGreatT32
namespace Go.Proofs.YtbmklgemmjgjfaaGreat
open Go.RowKit Go.Maps Tryz
set_option linter.unusedVariables false
set_option linter.unusedSimpArgs false
set_option maxRecDepth 100000
set_option maxHeartbeats 16000000
variable{J:Gh}{tl tr:Tr}{b sb nb cb al:Nat}{sp:OA}
section
section
variable{P:Program}{md:Region.Mode}{ops:Array Oper}{Q:EAW}{S:World->Prop}{Z:List Nat}{fuel:Nat}{listed:Array Bool}{a:Act}{W:World}
theorem Q8w{A:Nat->Act}(G:Nat->World->Prop)(b:(∀x W,G x W->Q .normal (A x) W)->Q0w P md ops (NoPanic Q) S Z fuel listed a W)(k:∀x W,G x W->Q .normal (A x) W):Q0w P md ops (NoPanic Q) S Z fuel listed a W:=b k
theorem Z6c{A:Nat->Nat->Nat->Nat->Act}(G:Nat->Nat->Nat->Nat->World->Prop)(b:(∀x s l m W,G x s l m W->Q .normal (A x s l m) W)->Q0w P md ops (NoPanic Q) S Z fuel listed a W)(k:∀x s l m W,G x s l m W->Q .normal (A x s l m) W):Q0w P md ops (NoPanic Q) S Z fuel listed a W:=b k
end
theorem Q5s{s l m:Nat}(w:World)(hi:J.In w):Calls prog 259 #[Q1j s l m,.nilIface] w (Got Nix J w (Q1j s l m)):=by
 unfold Q1j;refine Q0c (M:=Nix) hi ?_;intro W S;go_enter func259,ntmps259;go_wp2_with (first|refine wk ?_|refine Ws ?_;clear S;intro W S|refine wB ?_;clear S;intro y W S|refine wA ?_;clear S;intro z W S)
 refine bT ?_;exact⟨rfl,S.out.step⟩
variable{r p:List PE}
theorem X0y{a b:Tr}(h:ARem (some a) (some b) r):r≠[]:=by
 rintro rfl;obtain⟨_,h⟩:=h;rw[Z0r]at h;cases h
theorem X5f{t:Option Tr}{X:Prop}(h:ARem none t r):X:=by
 obtain⟨h,_⟩:=h;simp[atO]at h
theorem Z9p(t:Tr):ARem (some t) none []:=⟨by rw[Z0r];rfl,rfl⟩
theorem em_nil(r:List PE):r=[]\/r≠[]:=by cases r<;>simp
variable{vl vr:Value}{R:List Rw}{L0 VB:List Blk}{bs:List Nat}{s:C3}{rm md aq N D lb rb pc:Nat}{pa:OA}
theorem z1o{P:Prop}(h:P:=by
 refine Q6o [9,10,11] [] 3 6 (i:=8) (j:=12) kr rfl rfl kr rfl rfl kr kr (fun KK hKK=>?_) (fun KK hKK=>?_)
 ·go_simp;refine(Q5q J sb nb true HS.out.1 HS.out.2.1 _ S.out.inw).mono ?_;rintro e W ⟨sc,l,m,rfl,ha,st⟩;replace S:=Hd (S.out.call st);clear st;unfold Q1j;refine Tw [] 2 12 ?_;intro KK hKK;refine Q3c S rfl ?_;clear S;intro z1 W S;refine Yw [14] 0 13 ?_;intro KK hKK;refine Q0y (sub:=(L1o sc l m)) S rfl rfl rfl rfl ?_;clear S;intro W S;refine Et ?_;try refine yp ?_
  exact hk z1 sc l m _ ⟨ha,S⟩
 ·refine Q3c S rfl ?_;clear S;intro z1 W S;refine Yw [9,10,11] 2 8 ?_;intro KK hKK;go_simp;refine(Q5q J sb nb true HS.out.1 HS.out.2.1 _ S.out.inw).mono ?_;rintro e W ⟨sc,l,m,rfl,ha,st⟩;replace S:=Hd (S.out.call st);clear st;unfold Q1j;refine Tw [14] 0 13 ?_;intro KK hKK;refine Q0y (sub:=(L1o sc l m)) S rfl rfl rfl rfl ?_;clear S;intro W S;refine Et ?_;try refine yp ?_
  exact hk z1 sc l m _ ⟨ha,S⟩):P:=h
theorem z1p{P:Prop}(h:P:=by
 refine Q6o [] [] 2 2 (i:=5) (j:=6) kr rfl rfl kr rfl rfl kr kr (fun KK hKK=>?_) (fun KK hKK=>?_)
 ·go_simp;refine(Q5h (s:=sc) (l:=l) (m:=m) HKL.out.1 _ S.out.inw (HKL.out.2.at gR S)).mono ?_;rintro e W ⟨rfl,st⟩;replace S:=Hd (S.out.call st);clear st;rw[HDL.out];refine Yw [] 1 6 ?_;intro KK hKK;refine Q3c S rfl ?_;clear S;intro z2 W S;refine Yw [] 0 7 ?_;intro KK hKK;refine Q0y (sub:=(L0o d1 d2 d3)) S rfl rfl rfl rfl ?_;clear S;intro W S;refine Ey ?_;try refine yp ?_
  exact hk z2 _ S
 ·refine Q3c S rfl ?_;clear S;intro z2 W S;refine Yw [] 1 5 ?_;intro KK hKK;go_simp;refine(Q5h (s:=sc) (l:=l) (m:=m) HKL.out.1 _ S.out.inw (HKL.out.2.at gR S)).mono ?_;rintro e W ⟨rfl,st⟩;replace S:=Hd (S.out.call st);clear st;rw[HDL.out];refine Yw [] 0 7 ?_;intro KK hKK;refine Q0y (sub:=(L0o d1 d2 d3)) S rfl rfl rfl rfl ?_;clear S;intro W S;refine Ey ?_;try refine yp ?_
  exact hk z2 _ S):P:=h
theorem z1q{P:Prop}(h:P:=by
 refine Q6o [] [] 2 2 (i:=5) (j:=6) kr rfl rfl kr rfl rfl kr kr (fun KK hKK=>?_) (fun KK hKK=>?_)
 ·go_simp;refine(Q5h (s:=sc) (l:=l) (m:=m) HKR.out.1 _ S.out.inw (HKR.out.2.at gR S)).mono ?_;rintro e W ⟨rfl,st⟩;replace S:=Hd (S.out.call st);clear st;rw[HDR.out];refine Yw [] 1 6 ?_;intro KK hKK;refine Q3c S rfl ?_;clear S;intro z3 W S;refine Yw [] 0 7 ?_;intro KK hKK;refine Q0y (sub:=(L0o d1 d2 d3)) S rfl rfl rfl rfl ?_;clear S;intro W S;refine Ey ?_;try refine yp ?_
  exact hk z3 _ S
 ·refine Q3c S rfl ?_;clear S;intro z3 W S;refine Yw [] 1 5 ?_;intro KK hKK;go_simp;refine(Q5h (s:=sc) (l:=l) (m:=m) HKR.out.1 _ S.out.inw (HKR.out.2.at gR S)).mono ?_;rintro e W ⟨rfl,st⟩;replace S:=Hd (S.out.call st);clear st;rw[HDR.out];refine Yw [] 0 7 ?_;intro KK hKK;refine Q0y (sub:=(L0o d1 d2 d3)) S rfl rfl rfl rfl ?_;clear S;intro W S;refine Ey ?_;try refine yp ?_
  exact hk z3 _ S):P:=h
theorem X5z(htl:Q0r J vl tl)(hvl:Q2n J ((b,cc (.iface 339 (pt lb)) (.iface 339 (pt rb)) sb nb cb al (.slice pa p.length pc) false sp,.t 418)::L0) lb vl)(htr:Q0r J vr tr)(hvr:Q2n J ((b,cc (.iface 339 (pt lb)) (.iface 339 (pt rb)) sb nb cb al (.slice pa p.length pc) false sp,.t 418)::L0) rb vr)(hdd:∀s l m,Q5v tl.kind s l m=Q5v tr.kind s l m)(hk0:tr.kind≠0)(hs:Q2c J sb)(hn:Nm J nb nmDe)(hcb:∀(i:Nat) u,((L1o rm md aq):List Value)[i]?=some u->J.cell (ad cb (0+i)) u)(hpp:All2 (Nm J) bs p)(hD:p.length<=D/\2*D<=2*(osz (some tl)+osz (some tr))*D)(hc:s.lt (2 ^ 30 -2*(osz (some tl)+osz (some tr))*D))
  (h:∀sc l m,Q3a J sc l m true->Ac (Q1y tr.kind 429 427 428) #[pt b,.pointer (some (ad (Q1y tr.kind sc l m) 0))] J ((b,cc (.iface 339 (pt lb)) (.iface 339 (pt rb)) sb nb cb al (.slice pa p.length pc) false sp,.t 418)::L0) R (X2z (.iface 339 (pt lb)) (.iface 339 (pt rb)) b sb nb cb al rm md aq N sp s p bs (fun il r=>ARem (some tl) (some tr) r/\(il=false->r≠[])) (fun _=>AMod (some tl) (some tr)) (fun il r=>ARem (some tr) (some tl) r/\(il=false->r≠[])) (fun il=>2*(osz (some tl)+osz (some tr))*D -(if il=true then D else 2*D)) VB)):
  Ac 212 #[pt b,.nilFunc] J ((b,cc (.iface 339 (pt lb)) (.iface 339 (pt rb)) sb nb cb al (.slice pa p.length pc) false sp,.t 418)::L0) R (X2z (.iface 339 (pt lb)) (.iface 339 (pt rb)) b sb nb cb al rm md aq N sp s p bs (fun _=>ARem (some tl) (some tr)) (fun _=>AMod (some tl) (some tr)) (fun _=>ARem (some tr) (some tl)) (fun _=>2*(osz (some tl)+osz (some tr))*D -D) VB):=by
 intro M I w W S;have HKL:=Hd (And.intro htl.ak hvl);have HKR:=Hd (And.intro htr.ak hvr);have HDD:=Hd hdd;have HE:=Hd hk0;have HS:=Hd (nd3 hs hn trivial);have HB:=Hd (nd4 hcb hpp hD hc);have HH0:=Hd h;clear htl hvl htr hvr hdd hk0 hs hn hcb hpp hD hc h;simp only[cc]at S HKL HKR;go_enter func212,ntmps212;go_wp2_with (refine wk ?_)
 refine Rg S [(b,L0z lb rb sb nb pa p.length pc cb sp al,.t 418)] [] [] [0,1,2,3,4,5,6,7] 7 fun W S=>?_;refine tk1 ?_;apply Z6c (fun z1 sc l m W=>Q3a J sc l m true/\Hid (St M I J w W ((z1,L1o sc l m,.t 111)::(b,L0z lb rb sb nb pa p.length pc cb sp al,.t 418)::L0) R))
 ·intro hk;exact z1o
 clear S;rintro z1 sc l m W ⟨ha,S⟩;obtain⟨d1,d2,d3,hd⟩:=Q6u HKR.out.1 sc l m;have HDR:=Hd hd;have HDL:=Hd ((HDD.out sc l m).trans hd);have HH:=Hd (Z1c (nb:=nb) HKR.out.1 (HH0.out sc l m ha));have ha:=Hd ha;rw[hd]at HH;simp only[cc,Q0v]at HH;clear hd;go_wp2_with (refine wk ?_)
 refine Rg S [(b,L0z lb rb sb nb pa p.length pc cb sp al,.t 418),(z1,L1o sc l m,.t 111)] [] [] [0,1,2,3,4] 3 fun W S=>?_;refine tk1 ?_;apply Q8w (fun z2 W=>Hid (St M I J w W ((z2,L0o d1 d2 d3,.t 111)::(z1,L1o sc l m,.t 111)::(b,L0z lb rb sb nb pa p.length pc cb sp al,.t 418)::L0) R))
 ·intro hk;exact z1p
 clear S;intro z2 W S;go_wp2_with (refine wk ?_)
 refine Rg S [(b,L0z lb rb sb nb pa p.length pc cb sp al,.t 418),(z1,L1o sc l m,.t 111)] [] [] [0,1,2,3,4] 3 fun W S=>?_;refine tk1 ?_;apply Q8w (fun z3 W=>Hid (St M I J w W ((z3,L0o d1 d2 d3,.t 111)::(z2,L0o d1 d2 d3,.t 111)::(z1,L1o sc l m,.t 111)::(b,L0z lb rb sb nb pa p.length pc cb sp al,.t 418)::L0) R))
 ·intro hk;exact z1q
 clear S;intro z3 W S;go_wp2_with (first|go_at_call 168;refine Q0a S (X8e (L:=[(z3,L0o d1 d2 d3,.t 111),(z2,L0o d1 d2 d3,.t 111)]) (b1:=z2) (o1:=0) (b2:=z3) (o2:=0) (c:=(L0o d1 d2 d3)) HE.out ha.out HDR.out (Sees.blk (List.mem_cons_of_mem _ (List.mem_cons_self ..)) fun i u h=>by simpa using h) (Sees.blk (List.mem_cons_self ..) fun i u h=>by simpa using h)) ?_;rintro r7 K7 L7 R7 W7 hle7 ⟨hKJ,rfl,rfl,rfl⟩ S2;have hJK:=hKJ.symm;subst hJK;clear S;have S:=S2;clear S2;simp only[List.cons_append,List.nil_append]at S|refine wk ?_)
 refine Rg S [(b,L0z lb rb sb nb pa p.length pc cb sp al,.t 418),(z3,L0o d1 d2 d3,.t 111)] [] [8] [1,2,3,4,5,6,7] 4 fun W S=>?_;refine tk1 ?_;refine Z4d [0] 3 kr rfl kr (vw S gR) ?_;refine tkf ?_;refine Sh [] 2 8 fun KK hKK=>?_;go_simp;refine Q0a S HH.out ?_;rintro r5 K5 L5 R5 W' hle5 ⟨rfl,s1,il,n2,sp2,PB2,PR2,SL2,SR2,pa2,pc2,hn2,hsp2,hp2,hF2,hG2,rfl,rfl⟩ S2;have HP:=Hd (nd6 hn2 hsp2 hp2 hF2 hG2 hle5);clear S hn2 hsp2 hp2 hF2 hG2;have S:=S2;clear S2;replace S:=sa S;(try simp only[cc]at S);refine hKK.out _ _ ?_;clear hKK KK;refine yf ?_;refine Sh [10] 0 9 fun KK hKK=>?_;refine Q4b rfl rfl rfl underlying373 Z0q ?_;refine hKK.out _ _ ?_;clear hKK KK;refine tkf ?_;refine En ?_;cases il with
 |true=>
  go_wp2_with (first|go_at_call 260;refine got S (Q7m _ none 0 _) ?_;clear S;intro W S|refine wk ?_)
  go_ret;refine ap HP.out.2.2.2.2.2 ⟨rfl,s1,true,n2,sp2,PB2,PR2,SL2,SR2,pa2,pc2,HP.out.1,HP.out.2.1,HP.out.2.2.1,HP.out.2.2.2.1,HP.out.2.2.2.2.1.conv (fun r=>⟨⟨fun h=>h.1,fun h=>⟨h,by simp⟩⟩,Iff.rfl,⟨fun h=>h.1,fun h=>⟨h,by simp⟩⟩⟩) (Nat.le_refl _),rfl,rfl⟩ ?_;exact(show St _ _ _ _ _ ((b,L1g lb rb sb nb pa2 p.length pc2 cb sp2 al,.t 418)::(PB2++(SL2++VB))) (pathRw pa2 p.length pc2 bs::(PR2++SR2))from keep S)
 |false=>
  go_wp2_with (first|go_at_call 260;refine got S (Q7m _ none 0 _) ?_;clear S;intro W S|refine wk ?_)
  go_ret;refine ap HP.out.2.2.2.2.2 ⟨rfl,s1,false,n2,sp2,PB2,PR2,SL2,SR2,pa2,pc2,HP.out.1,HP.out.2.1,HP.out.2.2.1,HP.out.2.2.2.1,HP.out.2.2.2.2.1.conv (fun r=>⟨⟨fun h=>h.1,fun h=>⟨h,fun _=>X0y h⟩⟩,Iff.rfl,⟨fun h=>h.1,fun h=>⟨h,fun _=>X0y h⟩⟩⟩) (by simp only[if_true,if_false,Bool.false_eq_true];omega),rfl,rfl⟩ ?_;exact(show St _ _ _ _ _ ((b,L0z lb rb sb nb pa2 p.length pc2 cb sp2 al,.t 418)::(PB2++(SL2++VB))) (pathRw pa2 p.length pc2 bs::(PR2++SR2))from keep S)
theorem z1r{P:Prop}(h:P:=by
 refine Yw [] 0 7 ?_;intro KK hKK;refine Q0y (sub:=(L1o sc l m)) S rfl rfl rfl rfl ?_;clear S;intro W S;refine Ey ?_;try refine yp ?_
 exact hk z3 _ S):P:=h
theorem compL_s{rb:Nat}(htl:Q0r J vl tl)(hvl:Q2n J ((b,cc (.iface 339 (pt lb)) .nilIface sb nb cb al (.slice pa p.length pc) false sp,.t 418)::L0) lb vl)(hs:Q2c J sb)(hn:Nm J nb nmDe)(hcb:∀(i:Nat) u,((L1o rm md aq):List Value)[i]?=some u->J.cell (ad cb (0+i)) u)(hpp:All2 (Nm J) bs p)(hD:p.length<=D/\2*D<=2*(osz (some tl)+osz none)*D)(hc:s.lt (2 ^ 30 -2*(osz (some tl)+osz none)*D))
  (h:∀sc l m,Q3a J sc l m true->Ac (Q1y tl.kind 429 427 428) #[pt b,.pointer (some (ad (Q1y tl.kind sc l m) 0))] J ((b,cc (.iface 339 (pt lb)) .nilIface sb nb cb al (.slice pa p.length pc) false sp,.t 418)::L0) R (X2z (.iface 339 (pt lb)) .nilIface b sb nb cb al rm md aq N sp s p bs (fun il r=>ARem (some tl) none r/\(il=false->r≠[])) (fun _=>AMod (some tl) none) (fun il r=>ARem none (some tl) r/\(il=false->r≠[])) (fun il=>2*(osz (some tl)+osz none)*D -(if il=true then D else 2*D)) VB)):
  Ac 212 #[pt b,.nilFunc] J ((b,cc (.iface 339 (pt lb)) .nilIface sb nb cb al (.slice pa p.length pc) false sp,.t 418)::L0) R (X2z (.iface 339 (pt lb)) .nilIface b sb nb cb al rm md aq N sp s p bs (fun _=>ARem (some tl) none) (fun _=>AMod (some tl) none) (fun _=>ARem none (some tl)) (fun _=>2*(osz (some tl)+osz none)*D -D) VB):=by
 intro M I w W S;have HKL:=Hd (And.intro htl.ak hvl);skip;skip;skip;have HS:=Hd (nd3 hs hn trivial);have HB:=Hd (nd4 hcb hpp hD hc);have HH0:=Hd h;clear htl hvl hs hn hcb hpp hD hc h;simp only[cc]at S HKL;go_enter func212,ntmps212;go_wp2_with (refine wk ?_)
 refine Rg S [(b,L0u lb sb nb pa p.length pc cb sp al,.t 418)] [] [] [0,1,2,3,4,5,6,7] 7 fun W S=>?_;refine tk1 ?_;apply Z6c (fun z1 sc l m W=>Q3a J sc l m true/\Hid (St M I J w W ((z1,L1o sc l m,.t 111)::(b,L0u lb sb nb pa p.length pc cb sp al,.t 418)::L0) R))
 ·intro hk;exact z1o
 clear S;rintro z1 sc l m W ⟨ha,S⟩;obtain⟨d1,d2,d3,hd⟩:=Q6u HKL.out.1 sc l m;have HDL:=Hd hd;have HH:=Hd (Z1c (nb:=nb) HKL.out.1 (HH0.out sc l m ha));have ha:=Hd ha;rw[hd]at HH;simp only[cc,Q0v]at HH;clear hd;go_wp2_with (refine wk ?_)
 refine Rg S [(b,L0u lb sb nb pa p.length pc cb sp al,.t 418),(z1,L1o sc l m,.t 111)] [] [] [0,1,2,3,4] 3 fun W S=>?_;refine tk1 ?_;apply Q8w (fun z2 W=>Hid (St M I J w W ((z2,L0o d1 d2 d3,.t 111)::(z1,L1o sc l m,.t 111)::(b,L0u lb sb nb pa p.length pc cb sp al,.t 418)::L0) R))
 ·intro hk;exact z1p
 clear S;intro z2 W S;go_wp2_with (refine wk ?_)
 refine Rg S [(b,L0u lb sb nb pa p.length pc cb sp al,.t 418),(z1,L1o sc l m,.t 111)] [] [] [0,1,2,3,4] 3 fun W S=>?_;refine tk1 ?_;apply Q8w (fun z3 W=>Hid (St M I J w W ((z3,L1o sc l m,.t 111)::(z2,L0o d1 d2 d3,.t 111)::(z1,L1o sc l m,.t 111)::(b,L0u lb sb nb pa p.length pc cb sp al,.t 418)::L0) R))
 ·intro hk;refine Q6o [] [] 2 2 (i:=5) (j:=6) kr rfl rfl kr rfl rfl kr kr (fun KK hKK=>?_) (fun KK hKK=>?_)
  ·go_simp;refine(Q5s (s:=sc) (l:=l) (m:=m) _ S.out.inw).mono ?_;rintro e W ⟨rfl,st⟩;replace S:=Hd (S.out.call st);clear st;unfold Q1j;refine Yw [] 1 6 ?_;intro KK hKK;refine Q3c S rfl ?_;clear S;intro z3 W S;exact z1r
  ·refine Q3c S rfl ?_;clear S;intro z3 W S;refine Yw [] 1 5 ?_;intro KK hKK;go_simp;refine(Q5s (s:=sc) (l:=l) (m:=m) _ S.out.inw).mono ?_;rintro e W ⟨rfl,st⟩;replace S:=Hd (S.out.call st);clear st;unfold Q1j;exact z1r
 clear S;intro z3 W S;go_wp2_with (refine wk ?_)
 refine Rg S [(b,L0u lb sb nb pa p.length pc cb sp al,.t 418),(z2,L0o d1 d2 d3,.t 111)] [] [8] [1,2,3,4,5,6,7] 4 fun W S=>?_;refine tk1 ?_;refine Z4d [0] 3 kr rfl kr (vw S gR) ?_;refine tkf ?_;refine Sh [] 2 8 fun KK hKK=>?_;go_simp;refine Q0a S HH.out ?_;rintro r5 K5 L5 R5 W' hle5 ⟨rfl,s1,il,n2,sp2,PB2,PR2,SL2,SR2,pa2,pc2,hn2,hsp2,hp2,hF2,hG2,rfl,rfl⟩ S2;have HP:=Hd (nd6 hn2 hsp2 hp2 hF2 hG2 hle5);clear S hn2 hsp2 hp2 hF2 hG2;have S:=S2;clear S2;replace S:=sa S;(try simp only[cc]at S);refine hKK.out _ _ ?_;clear hKK KK;refine yf ?_;refine Sh [10] 0 9 fun KK hKK=>?_;refine Q4b rfl rfl rfl underlying373 Z0q ?_;refine hKK.out _ _ ?_;clear hKK KK;refine tkf ?_;refine En ?_;cases il with
 |true=>
  go_wp2_with (first|go_at_call 260;refine got S (Q7m _ none 0 _) ?_;clear S;intro W S|refine wk ?_)
  go_ret;refine ap HP.out.2.2.2.2.2 ⟨rfl,s1,true,n2,sp2,PB2,PR2,SL2,SR2,pa2,pc2,HP.out.1,HP.out.2.1,HP.out.2.2.1,HP.out.2.2.2.1,HP.out.2.2.2.2.1.conv (fun r=>⟨⟨fun h=>h.1,fun h=>⟨h,by simp⟩⟩,Iff.rfl,⟨fun h=>h.1,fun h=>⟨h,by simp⟩⟩⟩) (Nat.le_refl _),rfl,rfl⟩ ?_;exact(show St _ _ _ _ _ ((b,L2e lb sb nb pa2 p.length pc2 cb sp2 al,.t 418)::(PB2++(SL2++VB))) (pathRw pa2 p.length pc2 bs::(PR2++SR2))from keep S)
 |false=>
  go_wp2_with (refine wk ?_)
  have hcb5:=fun(i:Nat) u (h:((L1o rm md aq):List Value)[i]?=some u)=>(HB.out.1 i u h).mono HP.out.2.2.2.2.2;have HX:=Hd (show s1.lt (2 ^ 30 -p.length) by have h1:=HB.out.2.2.1;have h2:=HB.out.2.2.2;refine C3.lt.add HP.out.2.2.2.2.1 ?_;have:=h2.1;have:=h2.2.1;have:=h2.2.2;simp only[if_false,Bool.false_eq_true];omega);refine Rg S [(b,L0u lb sb nb pa2 p.length pc2 cb sp2 al,.t 418)] [] [] [0,1,2,3,4,5,6,7,8,9,10] 1 fun W S=>?_;refine tk30 ?_;refine Wr [] 0 11 fun KK hKK=>?_;go_simp;refine Q0a S (ins3R (pa:=pa2) (pc:=pc2) HP.out.2.2.2.1 HP.out.2.2.2.2.1.ok (HB.out.2.1.imp fun _ _ h=>h.mono HP.out.2.2.2.2.2) HX.out) ?_;rintro r6 K6 L6 R6 W' hle6 ⟨rfl,hKJ,R1,rfl,hS9⟩ S2;have hJK:=hKJ.symm;subst hJK;clear S;have S:=S2;clear S2;replace S:=sa S;refine Ey ?_;go_wp2_with (first|go_at_call 260;refine got S (Q7m _ none 0 _) ?_;clear S;intro W S|refine wk ?_)
  go_ret;refine ap HP.out.2.2.2.2.2 ⟨rfl,⟨s1.r.ins p,s1.m,s1.a⟩,false,n2,sp2,PB2,PR2,L6,R1,pa2,pc2,HP.out.1,HP.out.2.1,HP.out.2.2.1,hS9,(HP.out.2.2.2.2.1.trans (Q3e.insR (D:=D) HP.out.2.2.2.2.1.ok HB.out.2.2.1.1)).conv (fun r=>⟨⟨fun h=>h.elim (fun h=>h.1) fun h=>by subst h;exact Z9p _,fun h=>(em_nil r).elim (fun e=>.inr e) fun e=>.inl ⟨h,fun _=>e⟩⟩,⟨fun h=>h.elim id False.elim,.inl⟩,⟨fun h=>h.elim (fun h=>h.1) False.elim,fun h=>.inl ⟨h,fun _=>X5f h⟩⟩⟩) (by have:=HB.out.2.2.1.2;simp only[if_false,Bool.false_eq_true];omega),rfl,rfl⟩ ?_;exact(show St _ _ _ _ _ ((b,L0u lb sb nb pa2 p.length pc2 cb sp2 al,.t 418)::(PB2++(L6++VB))) (pathRw pa2 p.length pc2 bs::(PR2++R1))from keep S)
theorem z1s{P:Prop}(h:P:=by
 refine Yw [] 0 7 ?_;intro KK hKK;refine Q0y (sub:=(L1o sc l m)) S rfl rfl rfl rfl ?_;clear S;intro W S;refine Ey ?_;try refine yp ?_
 exact hk z2 _ S):P:=h
theorem compR_s{lb:Nat}(htr:Q0r J vr tr)(hvr:Q2n J ((b,cc .nilIface (.iface 339 (pt rb)) sb nb cb al (.slice pa p.length pc) false sp,.t 418)::L0) rb vr)(hs:Q2c J sb)(hn:Nm J nb nmDe)(hcb:∀(i:Nat) u,((L1o rm md aq):List Value)[i]?=some u->J.cell (ad cb (0+i)) u)(hpp:All2 (Nm J) bs p)(hD:p.length<=D/\2*D<=2*(osz none+osz (some tr))*D)(hc:s.lt (2 ^ 30 -2*(osz none+osz (some tr))*D))
  (h:∀sc l m,Q3a J sc l m true->Ac (Q1y tr.kind 429 427 428) #[pt b,.pointer (some (ad (Q1y tr.kind sc l m) 0))] J ((b,cc .nilIface (.iface 339 (pt rb)) sb nb cb al (.slice pa p.length pc) false sp,.t 418)::L0) R (X2z .nilIface (.iface 339 (pt rb)) b sb nb cb al rm md aq N sp s p bs (fun il r=>ARem none (some tr) r/\(il=false->r≠[])) (fun _=>AMod none (some tr)) (fun il r=>ARem (some tr) none r/\(il=false->r≠[])) (fun il=>2*(osz none+osz (some tr))*D -(if il=true then D else 2*D)) VB)):
  Ac 212 #[pt b,.nilFunc] J ((b,cc .nilIface (.iface 339 (pt rb)) sb nb cb al (.slice pa p.length pc) false sp,.t 418)::L0) R (X2z .nilIface (.iface 339 (pt rb)) b sb nb cb al rm md aq N sp s p bs (fun _=>ARem none (some tr)) (fun _=>AMod none (some tr)) (fun _=>ARem (some tr) none) (fun _=>2*(osz none+osz (some tr))*D -D) VB):=by
 intro M I w W S;skip;have HKR:=Hd (And.intro htr.ak hvr);skip;skip;have HS:=Hd (nd3 hs hn trivial);have HB:=Hd (nd4 hcb hpp hD hc);have HH0:=Hd h;clear htr hvr hs hn hcb hpp hD hc h;simp only[cc]at S HKR;go_enter func212,ntmps212;go_wp2_with (refine wk ?_)
 refine Rg S [(b,L0t rb sb nb pa p.length pc cb sp al,.t 418)] [] [] [0,1,2,3,4,5,6,7] 7 fun W S=>?_;refine tk1 ?_;apply Z6c (fun z1 sc l m W=>Q3a J sc l m true/\Hid (St M I J w W ((z1,L1o sc l m,.t 111)::(b,L0t rb sb nb pa p.length pc cb sp al,.t 418)::L0) R))
 ·intro hk;exact z1o
 clear S;rintro z1 sc l m W ⟨ha,S⟩;obtain⟨d1,d2,d3,hd⟩:=Q6u HKR.out.1 sc l m;have HDR:=Hd hd;have HH:=Hd (Z1c (nb:=nb) HKR.out.1 (HH0.out sc l m ha));have ha:=Hd ha;rw[hd]at HH;simp only[cc,Q0v]at HH;clear hd;go_wp2_with (refine wk ?_)
 refine Rg S [(b,L0t rb sb nb pa p.length pc cb sp al,.t 418),(z1,L1o sc l m,.t 111)] [] [] [0,1,2,3,4] 3 fun W S=>?_;refine tk1 ?_;apply Q8w (fun z2 W=>Hid (St M I J w W ((z2,L1o sc l m,.t 111)::(z1,L1o sc l m,.t 111)::(b,L0t rb sb nb pa p.length pc cb sp al,.t 418)::L0) R))
 ·intro hk;refine Q6o [] [] 2 2 (i:=5) (j:=6) kr rfl rfl kr rfl rfl kr kr (fun KK hKK=>?_) (fun KK hKK=>?_)
  ·go_simp;refine(Q5s (s:=sc) (l:=l) (m:=m) _ S.out.inw).mono ?_;rintro e W ⟨rfl,st⟩;replace S:=Hd (S.out.call st);clear st;unfold Q1j;refine Yw [] 1 6 ?_;intro KK hKK;refine Q3c S rfl ?_;clear S;intro z2 W S;exact z1s
  ·refine Q3c S rfl ?_;clear S;intro z2 W S;refine Yw [] 1 5 ?_;intro KK hKK;go_simp;refine(Q5s (s:=sc) (l:=l) (m:=m) _ S.out.inw).mono ?_;rintro e W ⟨rfl,st⟩;replace S:=Hd (S.out.call st);clear st;unfold Q1j;exact z1s
 clear S;intro z2 W S;go_wp2_with (refine wk ?_)
 refine Rg S [(b,L0t rb sb nb pa p.length pc cb sp al,.t 418),(z1,L1o sc l m,.t 111)] [] [] [0,1,2,3,4] 3 fun W S=>?_;refine tk1 ?_;apply Q8w (fun z3 W=>Hid (St M I J w W ((z3,L0o d1 d2 d3,.t 111)::(z2,L1o sc l m,.t 111)::(z1,L1o sc l m,.t 111)::(b,L0t rb sb nb pa p.length pc cb sp al,.t 418)::L0) R))
 ·intro hk;exact z1q
 clear S;intro z3 W S;go_wp2_with (refine wk ?_)
 refine Rg S [(b,L0t rb sb nb pa p.length pc cb sp al,.t 418),(z3,L0o d1 d2 d3,.t 111)] [] [8] [1,2,3,4,5,6,7] 4 fun W S=>?_;refine tk1 ?_;refine Z4d [0] 3 kr rfl kr (vw S gR) ?_;refine tkf ?_;refine Sh [] 2 8 fun KK hKK=>?_;go_simp;refine Q0a S HH.out ?_;rintro r5 K5 L5 R5 W' hle5 ⟨rfl,s1,il,n2,sp2,PB2,PR2,SL2,SR2,pa2,pc2,hn2,hsp2,hp2,hF2,hG2,rfl,rfl⟩ S2;have HP:=Hd (nd6 hn2 hsp2 hp2 hF2 hG2 hle5);clear S hn2 hsp2 hp2 hF2 hG2;have S:=S2;clear S2;replace S:=sa S;(try simp only[cc]at S);refine hKK.out _ _ ?_;clear hKK KK;refine yf ?_;refine Sh [10] 0 9 fun KK hKK=>?_;refine Q4b rfl rfl rfl underlying373 Z0q ?_;refine hKK.out _ _ ?_;clear hKK KK;refine tkf ?_;refine En ?_;cases il with
 |true=>
  go_wp2_with (first|go_at_call 260;refine got S (Q7m _ none 0 _) ?_;clear S;intro W S|refine wk ?_)
  go_ret;refine ap HP.out.2.2.2.2.2 ⟨rfl,s1,true,n2,sp2,PB2,PR2,SL2,SR2,pa2,pc2,HP.out.1,HP.out.2.1,HP.out.2.2.1,HP.out.2.2.2.1,HP.out.2.2.2.2.1.conv (fun r=>⟨⟨fun h=>h.1,fun h=>⟨h,by simp⟩⟩,Iff.rfl,⟨fun h=>h.1,fun h=>⟨h,by simp⟩⟩⟩) (Nat.le_refl _),rfl,rfl⟩ ?_;exact(show St _ _ _ _ _ ((b,L2d rb sb nb pa2 p.length pc2 cb sp2 al,.t 418)::(PB2++(SL2++VB))) (pathRw pa2 p.length pc2 bs::(PR2++SR2))from keep S)
 |false=>
  go_wp2_with (refine wk ?_)
  have hcb5:=fun(i:Nat) u (h:((L1o rm md aq):List Value)[i]?=some u)=>(HB.out.1 i u h).mono HP.out.2.2.2.2.2;have HX:=Hd (show s1.lt (2 ^ 30 -p.length) by have h1:=HB.out.2.2.1;have h2:=HB.out.2.2.2;refine C3.lt.add HP.out.2.2.2.2.1 ?_;have:=h2.1;have:=h2.2.1;have:=h2.2.2;simp only[if_false,Bool.false_eq_true];omega);refine Rg S [(b,L0t rb sb nb pa2 p.length pc2 cb sp2 al,.t 418)] [] [] [0,1,2,3,4,5,6,7,8,9,10] 1 fun W S=>?_;refine tk30 ?_;refine Wr [] 0 11 fun KK hKK=>?_;go_simp;refine Q0a S (ins3A (pa:=pa2) (pc:=pc2) HP.out.2.2.2.1 HP.out.2.2.2.2.1.ok (HB.out.2.1.imp fun _ _ h=>h.mono HP.out.2.2.2.2.2) HX.out) ?_;rintro r6 K6 L6 R6 W' hle6 ⟨rfl,hKJ,R1,rfl,hS9⟩ S2;have hJK:=hKJ.symm;subst hJK;clear S;have S:=S2;clear S2;replace S:=sa S;refine Ey ?_;go_wp2_with (first|go_at_call 260;refine got S (Q7m _ none 0 _) ?_;clear S;intro W S|refine wk ?_)
  go_ret;refine ap HP.out.2.2.2.2.2 ⟨rfl,⟨s1.r,s1.m,s1.a.ins p⟩,false,n2,sp2,PB2,PR2,L6,R1,pa2,pc2,HP.out.1,HP.out.2.1,HP.out.2.2.1,hS9,(HP.out.2.2.2.2.1.trans (Q3e.insA (D:=D) HP.out.2.2.2.2.1.ok HB.out.2.2.1.1)).conv (fun r=>⟨⟨fun h=>h.elim (fun h=>h.1) False.elim,fun h=>.inl ⟨h,fun _=>X5f h⟩⟩,⟨fun h=>h.elim id False.elim,.inl⟩,⟨fun h=>h.elim (fun h=>h.1) fun h=>by subst h;exact Z9p _,fun h=>(em_nil r).elim (fun e=>.inr e) fun e=>.inl ⟨h,fun _=>e⟩⟩⟩) (by have:=HB.out.2.2.1.2;simp only[if_false,Bool.false_eq_true];omega),rfl,rfl⟩ ?_;exact(show St _ _ _ _ _ ((b,L0t rb sb nb pa2 p.length pc2 cb sp2 al,.t 418)::(PB2++(L6++VB))) (pathRw pa2 p.length pc2 bs::(PR2++R1))from keep S)
end
section
variable{t a:Tr}
theorem X3x(h:fldO (some t)=[])(k:PE)(x:List PE):atO (some t) (k::x)=none:=by
 rw[Q6d,h];rfl
theorem Z8j(hl:fldO (some tl)=[])(r:List PE):ARem (some tl) (some tr) r<->False:=by
 constructor
 ·rintro⟨h1,h2⟩;match r with
  |[]=>rw[Z0r]at h2;cases h2
  |k::x=>rw[X3x hl]at h1;cases h1
 ·exact False.elim
theorem leafMB(hl:fldO (some tl)=[])(hm:tl.isMap=true->eqT tr tl=true)(r:List PE):AMod (some tl) (some tr) r<->(r=[]/\eqT tr tl=false):=by
 constructor
 ·rintro⟨x,y,h1,h2,h3,h4⟩;match r with
  |[]=>rw[Z0r]at h1 h2;cases h1;cases h2;exact⟨rfl,h4⟩
  |k::x=>rw[X3x hl]at h1;cases h1
 ·rintro⟨rfl,h⟩;refine⟨tl,tr,Z0r _,Z0r _,?_,h⟩;cases hi:tl.isMap
  ·rfl
  ·rw[hm hi]at h;cases h
theorem Z7s(hl:fldO (some tl)=[])(r:List PE):ARem (some tl) none r<->r=[]:=by
 constructor
 ·rintro⟨h1,_⟩;match r with
  |[]=>rfl
  |k::x=>rw[X3x hl]at h1;cases h1
 ·rintro rfl;exact Z9p _
theorem noM1{t:Option Tr}(r:List PE):AMod t none r<->False:=⟨fun⟨x,y,_,h,_⟩=>by simp[atO]at h,False.elim⟩
theorem noM2{t:Option Tr}(r:List PE):AMod none t r<->False:=⟨fun⟨x,y,h,_⟩=>by simp[atO]at h,False.elim⟩
theorem noR2{t:Option Tr}(r:List PE):ARem none t r<->False:=⟨fun h=>X5f h,False.elim⟩
variable{lv rv:Value}
theorem Q8f{rm md aq D N n:Nat}{pa:OA}{pc:Nat}{PB VB:List Blk}{PR:List Rw}{p:List PE}{bs:List Nat}{s:C3}{R M A R2 M2 A2:List PE->Prop}{c:Nat}{u:Value}{K:Gh}{L':List Blk}{R':List Rw}(hp:Pool 418 673 415 14 n sp PB PR)(hn:n<=N)(e:∀r,(R r<->R2 r)/\(M r<->M2 r)/\(A r<->A2 r))(hc:D<=c)
  (h:LPost lv rv b sb nb cb al rm md aq D sp pa pc PB VB PR p bs s R M A u K L' R'):u=.tuple #[]/\X2z lv rv b sb nb cb al rm md aq N sp s p bs (fun il r=>R2 r/\(il=false->r≠[])) (fun _=>M2) (fun il r=>A2 r/\(il=false->r≠[])) (fun il=>if il=true then c else c -D) VB (sn) K L' R':=by
 obtain⟨hu,s',SL,SR,h1,h2,h3,h4⟩:=h;exact⟨hu,rfl,s',true,n,sp,PB,PR,SL,SR,pa,pc,hn,.same,hp,h1,h2.conv (fun r=>⟨(e r).1.trans ⟨fun h=>⟨h,by simp⟩,fun h=>h.1⟩,(e r).2.1,(e r).2.2.trans ⟨fun h=>⟨h,by simp⟩,fun h=>h.1⟩⟩) (by simpa using hc),h3,h4⟩
theorem X6a(T D:Nat):(fun il:Bool=>T -(if il=true then D else 2*D))=fun il=>if il=true then T -D else T -D -D:=funext fun il=>by cases il<;>simp<;>omega
theorem Q5e{ts:KT}{vs:KV}(hk:vs.map (·.1)=ts.map (·.1))(h:vs=[]):ts=[]:=by
 subst h;cases ts with
 |nil=>rfl
 |cons a l=>simp at hk
theorem Q9o{path:Value}{il:Bool}{L0:List Blk}:Sees J ((b,cc lv rv sb nb cb al path il sp,.t 418)::L0) b 13 [.iface 340 (pt al)]:=Sees.blk (List.mem_cons_self ..) fun i u h=>by
 match i,h with
 |0,h=>simpa[cc]using h
 |i+1,h=>simp at h
theorem X8g{b:Tr}(ha:a.kind≠0/\a.kind≠5/\a.kind≠6)(hb:b.kind≠0/\b.kind≠5/\b.kind≠6)(s l m:Nat):Q5v a.kind s l m=Q5v b.kind s l m:=by
 cases a<;>cases b<;>simp_all [Tr.kind,Q5v]
theorem Q5g(h:t.kind≠6):fldO (some t)=[]:=by cases t<;>first|rfl|exact absurd rfl h
theorem Z4w(h:t.kind≠6):t.isMap=false:=by cases t<;>first|rfl|exact absurd rfl h
theorem Z8m{b:Tr}(h:Q2d a b=true)(ha:Q1i a=true)(hb:Q1i b=true):a.kind≠0/\b.kind≠0/\(a.kind=6<->b.kind=6)/\(a.kind=5<->b.kind=5):=by
 cases a<;>cases b<;>simp_all [Q2d,Q1i,Tr.kind,Tr.isMap,Tr.isList]
theorem Z4h{k:Nat}(h:k≠0/\k≠5/\k≠6)(a b c:Nat):Q1y k a b c=a:=by
 unfold Q1y;split<;>simp_all
theorem Q6v{v:Value}(h:Q0r J v t)(hk:t.kind=5):∃A n c,v=.iface 282 (.slice A n c):=by
 cases h<;>first|exact⟨_,_,_,rfl⟩|cases hk
theorem arB(a b D:Nat):2*(1+a+(1+b))*D=2*(a+b)*D+4*D:=by rw[show 1+a+(1+b)=(a+b)+2 by omega,Nat.mul_add,Nat.add_mul]
theorem arL(a D:Nat):2*(1+a+0)*D=2*(a+0)*D+2*D:=by rw[show 1+a+0=(a+0)+1 by omega,Nat.mul_add,Nat.add_mul]
theorem arR(a D:Nat):2*(0+(1+a))*D=2*(0+a)*D+2*D:=by rw[show 0+(1+a)=(0+a)+1 by omega,Nat.mul_add,Nat.add_mul]
theorem call:∀z,CAll z:=by
 intro z;induction z with
 |zero=>
  intro J vl vr lo ro lb rb VB h1 h2 hsome hal hz;exfalso;cases h1 with
  |none=>
   cases h2 with
   |none=>rcases hsome with h|h<;>cases h
   |some v t _ h=>have:=Q1l t;simp only[osz]at hz;omega
  |some v t _ h=>have:=Q1l t;simp only[osz]at hz;omega
 |succ z IH=>
  intro J vl vr lo ro lb rb VB h1 h2 hsome hal hz N D b sb nb cb al rm md aq n sp PB SL PR SR s p bs pa pc hN hnN hsch hnm hcb hp hF hok hpp hD hc;have hsub:∀{x:List Value},∀y∈VB,y∈(b,x,Bt.t 418)::(PB++(SL++VB)):=fun y hy=>List.mem_cons_of_mem _ (List.mem_append_right _ (List.mem_append_right _ hy));have hpos:0<2 ^ 30 -2*(osz lo+osz ro)*D:=by have:=hc.1;omega
  cases h1 with
  |some vl tl _ htl hvl hnl=>
   cases h2 with
   |some vr tr _ htr hvr hnr=>
    obtain⟨k1,k2,k3,k4⟩:=Z8m (hal _ _ rfl rfl) hnl hnr;have hd2:=dle2 D tl;have hd3:=dle2 D tr;have hT:2*(osz (some tl)+osz (some tr))*D=2*tl.size*D+2*tr.size*D:=by simp only[osz];rw[Nat.mul_add,Nat.add_mul]
    have hp1:=Q1l tl;have hp2:=Q1l tr;have hb1:s.lt (2 ^ 30 -p.length):=⟨by have:=hc.1;omega,by have:=hc.2.1;omega,by have:=hc.2.2;omega⟩
    simp only[vif_s];have hcost:=X6a (2*(osz (some tl)+osz (some tr))*D) D;by_cases h6:tr.kind=6
    ·refine X5z htl (hvl.sub hsub) htr (hvr.sub hsub) (fun sc l m=>by rw[k3.2 h6,h6]) k2 hsch hnm hcb hpp ⟨by omega,by omega⟩ hc fun sc l m hat=>?_;obtain⟨_,_,n2,g1,g2⟩:=hat;rw[h6,hcost];cases htr with
     |map r2 vs2 ts2 hm2 hk2' he2=>
      cases htl with
      |map r1 vs1 ts1 hm1 hk1' he1=>
       refine cmap_s (lo:=some r1) (ro:=some r2) (ml:=vs1) (mr:=vs2) (Z2p Q9o hvl hsub) (Z2p Q9o hvr hsub) hm1 hm2 (.inl rfl) g2 (fun e1 e2=>?_) fun hne=>?_
       ·have e3:=Q5e hk1' e1;have e4:=Q5e hk2' e2;subst e3 e4;exact(Z8z (D:=D) hF hok hpp hb1 om hcb (.map r1 vs1 [] hm1 hk1' he1) (.map r2 vs2 [] hm2 hk2' he2) hvl hvr).mono fun _ _ _ _ _ h=>Q8f hp hnN.1 (fun r=>⟨(Z8j rfl r).symm,(leafMB rfl (fun _=>by simp[eqT,eqM]) r).symm,(Z8j rfl r).symm⟩) om h
       ·simp only[osz,Tr.size]at hz hN hD hc hT;have hAr:=arB (Q0p ts1) (Q0p ts2) D;refine(X0b (ol:=some r1) (or':=some r2) (D:=D) (lo:=some (.map ts1)) (ro:=some (.map ts2)) IH rfl rfl (.some r1 vs1 ts1 hm1 hk1' he1) (.some r2 vs2 ts2 hm2 hk2' he2) (fun t e=>by cases e;exact hnl) (fun t e=>by cases e;exact hnr) hal b1s b1s hnN hsch g1 hcb g2 hp hF hok hpp b1s (by have:=hc.1;omega) ⟨by have:=hc.1;simp only[fldO];omega,by have:=hc.2.1;simp only[fldO];omega,by have:=hc.2.2;simp only[fldO];omega⟩ (.inl rfl)).mono ?_;rintro u K L' R' _ ⟨hu,s',n',sp',PB',PR',SL',SR',pa',pc',e1,e2,e3,e4,e5,rfl,rfl⟩;exact⟨hu,hu,s',false,n',sp',PB',PR',SL',SR',pa',pc',e1,e2,e3,e4,e5.conv (fun r=>⟨⟨fun h=>⟨h.1,fun _=>h.2⟩,fun h=>⟨h.1,h.2 rfl⟩⟩,Z6a _ _ (fun x y hx _=>by cases hx;rfl) r,⟨fun h=>⟨h.1,fun _=>h.2⟩,fun h=>⟨h.1,h.2 rfl⟩⟩⟩) (by simp only[osz,Tr.size,fldO,Bool.false_eq_true,if_false];omega),rfl,rfl⟩
      |null|bool|int|flt|str|list=>have h7:=k3.2 h6;simp[Tr.kind]at h7
     |null|bool|int|flt|str|list=>simp[Tr.kind]at h6
    ·by_cases h5:tr.kind=5
     ·refine X5z htl (hvl.sub hsub) htr (hvr.sub hsub) (fun sc l m=>by rw[k4.2 h5,h5]) k2 hsch hnm hcb hpp ⟨by omega,by omega⟩ hc fun sc l m hat=>?_;obtain⟨_,⟨n2,g1,g2⟩,_⟩:=hat;rw[h5,hcost];obtain⟨A1,n1,c1,rfl⟩:=Q6v htl (k4.2 h5);obtain⟨A2,n3,c2,rfl⟩:=Q6v htr h5;have h6':tl.kind≠6:=fun e=>h6 (k3.1 e);exact X5y (lo:=some (A1,n1,c1)) (ro:=some (A2,n3,c2)) (Z2n Q9o hvl hsub) (Z2n Q9o hvr hsub) (.inl rfl) g2 ((Z8z (D:=D) hF hok hpp hb1 om hcb htl htr hvl hvr).mono fun _ _ _ _ _ h=>Q8f hp hnN.1 (fun r=>⟨(Z8j (Q5g h6') r).symm,(leafMB (Q5g h6') (fun h=>by rw[Z4w h6']at h;cases h) r).symm,(Z8j (Q5g h6) r).symm⟩) om h)
     ·have h6':tl.kind≠6:=fun e=>h6 (k3.1 e);have h5':tl.kind≠5:=fun e=>h5 (k4.1 e);refine X5z htl (hvl.sub hsub) htr (hvr.sub hsub) (X8g ⟨k1,h5',h6'⟩ ⟨k2,h5,h6⟩) k2 hsch hnm hcb hpp ⟨by omega,by omega⟩ hc fun sc l m hat=>?_;rw[Z4h ⟨k2,h5,h6⟩,Z4h ⟨k2,h5,h6⟩,hcost];exact Z6n (ScOK.some htl.ak ⟨h5',h6'⟩ hat.1 hvl hsub) (ScOK.some htr.ak ⟨h5,h6⟩ hat.1 hvr hsub) ((Z8z (D:=D) hF hok hpp hb1 om hcb htl htr hvl hvr).mono fun _ _ _ _ _ h=>Q8f hp hnN.1 (fun r=>⟨(Z8j (Q5g h6') r).symm,(leafMB (Q5g h6') (fun h=>by rw[Z4w h6']at h;cases h) r).symm,(Z8j (Q5g h6) r).symm⟩) om h)
   |none=>
    have hd2:=dle2 D tl;have hT:2*(osz (some tl)+osz none)*D=2*tl.size*D:=by simp[osz]
    have hp1:=Q1l tl;have hb1:s.lt (2 ^ 30 -p.length):=⟨by have:=hc.1;simp only[osz]at*;omega,by have:=hc.2.1;simp only[osz]at*;omega,by have:=hc.2.2;simp only[osz]at*;omega⟩
    have hk0:tl.kind≠0:=by cases tl<;>simp_all [Q1i,Tr.kind]
    simp only[vif_s,vif_n];have hcost:=X6a (2*(osz (some tl)+osz none)*D) D;refine compL_s (rb:=0) htl (hvl.sub hsub) hsch hnm hcb hpp ⟨by simp only[osz]at*;omega,by omega⟩ hc fun sc l m hat=>?_;by_cases h6:tl.kind=6
    ·obtain⟨_,_,n2,g1,g2⟩:=hat;rw[h6,hcost];cases htl with
     |map r1 vs1 ts1 hm1 hk1' he1=>
      refine cmap_s (lo:=some r1) (ro:=none) (ml:=vs1) (mr:=[]) (Z2p Q9o hvl hsub) X1r hm1 rfl (.inl rfl) g2 (fun e1 e2=>?_) fun hne=>?_
      ·have e3:=Q5e hk1' e1;subst e3;exact(X0f (D:=D) hF hok hpp hb1 b1m hcb).mono fun _ _ _ _ _ h=>Q8f hp hnN.1 (fun r=>⟨(Z7s rfl r).symm,(noM1 r).symm,(noR2 r).symm⟩) om h
      ·simp only[osz,Tr.size]at hz hN hD hc hT;have hAr:=arL (Q0p ts1) D;refine(X0b (ol:=some r1) (or':=none) (D:=D) (lo:=some (.map ts1)) (ro:=none) IH rfl rfl (.some r1 vs1 ts1 hm1 hk1' he1) .none (fun t e=>by cases e;exact hnl) (fun t e=>by cases e) hal b0n b0n hnN hsch g1 hcb g2 hp hF hok hpp b0n (by have:=hc.1;omega) ⟨by have:=hc.1;simp only[fldO,Q0p];omega,by have:=hc.2.1;simp only[fldO,Q0p];omega,by have:=hc.2.2;simp only[fldO,Q0p];omega⟩ (.inl rfl)).mono ?_;rintro u K L' R' _ ⟨hu,s',n',sp',PB',PR',SL',SR',pa',pc',e1,e2,e3,e4,e5,rfl,rfl⟩;exact⟨hu,hu,s',false,n',sp',PB',PR',SL',SR',pa',pc',e1,e2,e3,e4,e5.conv (fun r=>⟨⟨fun h=>⟨h.1,fun _=>h.2⟩,fun h=>⟨h.1,h.2 rfl⟩⟩,Z6a _ _ (fun x y _ hy=>by cases hy) r,⟨fun h=>⟨h.1,fun _=>h.2⟩,fun h=>⟨h.1,h.2 rfl⟩⟩⟩) b2o,rfl,rfl⟩
     |null|bool|int|flt|str|list=>simp[Tr.kind]at h6
    ·by_cases h5:tl.kind=5
     ·obtain⟨_,⟨n2,g1,g2⟩,_⟩:=hat;rw[h5,hcost];obtain⟨A1,n1,c1,rfl⟩:=Q6v htl h5;exact X5y (lo:=some (A1,n1,c1)) (ro:=none) (Z2n Q9o hvl hsub) X1o (.inl rfl) g2 ((X0f (D:=D) hF hok hpp hb1 b1m hcb).mono fun _ _ _ _ _ h=>Q8f hp hnN.1 (fun r=>⟨(Z7s (Q5g h6) r).symm,(noM1 r).symm,(noR2 r).symm⟩) om h)
     ·rw[Z4h ⟨hk0,h5,h6⟩,Z4h ⟨hk0,h5,h6⟩,hcost];exact Z6n (ScOK.some htl.ak ⟨h5,h6⟩ hat.1 hvl hsub) ScOK.nil ((X0f (D:=D) hF hok hpp hb1 b1m hcb).mono fun _ _ _ _ _ h=>Q8f hp hnN.1 (fun r=>⟨(Z7s (Q5g h6) r).symm,(noM1 r).symm,(noR2 r).symm⟩) om h)
  |none=>
   cases h2 with
   |none=>rcases hsome with h|h<;>cases h
   |some vr tr _ htr hvr hnr=>
    have hd2:=dle2 D tr;have hT:2*(osz none+osz (some tr))*D=2*tr.size*D:=by simp[osz]
    have hp1:=Q1l tr;have hb1:s.lt (2 ^ 30 -p.length):=⟨by have:=hc.1;simp only[osz]at*;omega,by have:=hc.2.1;simp only[osz]at*;omega,by have:=hc.2.2;simp only[osz]at*;omega⟩
    have hk0:tr.kind≠0:=by cases tr<;>simp_all [Q1i,Tr.kind]
    simp only[vif_s,vif_n];have hcost:=X6a (2*(osz none+osz (some tr))*D) D;refine compR_s (lb:=0) htr (hvr.sub hsub) hsch hnm hcb hpp ⟨by simp only[osz]at*;omega,by omega⟩ hc fun sc l m hat=>?_;by_cases h6:tr.kind=6
    ·obtain⟨_,_,n2,g1,g2⟩:=hat;rw[h6,hcost];cases htr with
     |map r1 vs1 ts1 hm1 hk1' he1=>
      refine cmap_s (lo:=none) (ro:=some r1) (ml:=[]) (mr:=vs1) X1r (Z2p Q9o hvr hsub) rfl hm1 (.inr rfl) g2 (fun e1 e2=>?_) fun hne=>?_
      ·have e3:=Q5e hk1' e2;subst e3;exact(X0h (D:=D) hF hok hpp hb1 b1m hcb).mono fun _ _ _ _ _ h=>Q8f hp hnN.1 (fun r=>⟨(noR2 r).symm,(noM2 r).symm,(Z7s rfl r).symm⟩) om h
      ·simp only[osz,Tr.size]at hz hN hD hc hT;have hAr:=arR (Q0p ts1) D;refine(X0b (ol:=none) (or':=some r1) (D:=D) (lo:=none) (ro:=some (.map ts1)) IH rfl rfl .none (.some r1 vs1 ts1 hm1 hk1' he1) (fun t e=>by cases e) (fun t e=>by cases e;exact hnr) hal b0n b0n hnN hsch g1 hcb g2 hp hF hok hpp b0n (by have:=hc.1;omega) ⟨by have:=hc.1;simp only[fldO,Q0p];omega,by have:=hc.2.1;simp only[fldO,Q0p];omega,by have:=hc.2.2;simp only[fldO,Q0p];omega⟩ (.inr rfl)).mono ?_;rintro u K L' R' _ ⟨hu,s',n',sp',PB',PR',SL',SR',pa',pc',e1,e2,e3,e4,e5,rfl,rfl⟩;exact⟨hu,hu,s',false,n',sp',PB',PR',SL',SR',pa',pc',e1,e2,e3,e4,e5.conv (fun r=>⟨⟨fun h=>⟨h.1,fun _=>h.2⟩,fun h=>⟨h.1,h.2 rfl⟩⟩,Z6a _ _ (fun x y hx _=>by cases hx) r,⟨fun h=>⟨h.1,fun _=>h.2⟩,fun h=>⟨h.1,h.2 rfl⟩⟩⟩) b2o,rfl,rfl⟩
     |null|bool|int|flt|str|list=>simp[Tr.kind]at h6
    ·by_cases h5:tr.kind=5
     ·obtain⟨_,⟨n2,g1,g2⟩,_⟩:=hat;rw[h5,hcost];obtain⟨A1,n1,c1,rfl⟩:=Q6v htr h5;exact X5y (lo:=none) (ro:=some (A1,n1,c1)) X1o (Z2n Q9o hvr hsub) (.inr rfl) g2 ((X0h (D:=D) hF hok hpp hb1 b1m hcb).mono fun _ _ _ _ _ h=>Q8f hp hnN.1 (fun r=>⟨(noR2 r).symm,(noM2 r).symm,(Z7s (Q5g h6) r).symm⟩) om h)
     ·rw[Z4h ⟨hk0,h5,h6⟩,Z4h ⟨hk0,h5,h6⟩,hcost];exact Z6n ScOK.nil (ScOK.some htr.ak ⟨h5,h6⟩ hat.1 hvr hsub) ((X0h (D:=D) hF hok hpp hb1 b1m hcb).mono fun _ _ _ _ _ h=>Q8f hp hnN.1 (fun r=>⟨(noR2 r).symm,(noM2 r).symm,(Z7s (Q5g h6) r).symm⟩) om h)
end
end Go.Proofs.YtbmklgemmjgjfaaGreat
