/- Part 35: Vmm. -/
import Derived.Test.YtbmklgemmjgjfaaGreatT33
import Derived.Test.YtbmklgemmjgjfaaGreatT34
namespace Go.Proofs.YtbmklgemmjgjfaaGreat
open Go.RowKit Go.Maps Tryz
set_option linter.unusedVariables false
set_option linter.unusedSimpArgs false
set_option maxRecDepth 100000
set_option maxHeartbeats 16000000
section
@[go_sem] theorem neqf455(w:World):(binOp .neq 455 .nilFunc .nilFunc).run prog w=.ok (.bool false) w:=by kernel_rfl
variable{vl vr lv rv:Value}{t tl tr:Tr}{R:List Rw}{L0 VB:List Blk}{bs:List Nat}{b sb nb al N np lb rb pc:Nat}{sp pa:OA}{J:Gh}
theorem z2b{P:Prop}(h:P:=by
 refine Q6o [9,10,11] [] 3 6 (i:=8) (j:=12) kr rfl rfl kr rfl rfl kr kr (fun KK hKK=>?_) (fun KK hKK=>?_)
 ·go_simp;refine(Q5q J sb nb true HS.out.1 HS.out.2.1 _ S.out.inw).mono ?_;rintro e W ⟨sc,l,m,rfl,ha,st⟩;replace S:=Hd (S.out.call st);clear st;unfold Q1j;refine Tw [] 2 12 ?_;intro KK hKK;refine Q3c S rfl ?_;clear S;intro z1 W S;refine Yw [14] 0 13 ?_;intro KK hKK;refine Q0y (sub:=(L1o sc l m)) S rfl rfl rfl rfl ?_;clear S;intro W S;refine Et ?_;try refine yp ?_
  exact hk z1 sc l m _ ⟨ha,S⟩
 ·refine Q3c S rfl ?_;clear S;intro z1 W S;refine Yw [9,10,11] 2 8 ?_;intro KK hKK;go_simp;refine(Q5q J sb nb true HS.out.1 HS.out.2.1 _ S.out.inw).mono ?_;rintro e W ⟨sc,l,m,rfl,ha,st⟩;replace S:=Hd (S.out.call st);clear st;unfold Q1j;refine Tw [14] 0 13 ?_;intro KK hKK;refine Q0y (sub:=(L1o sc l m)) S rfl rfl rfl rfl ?_;clear S;intro W S;refine Et ?_;try refine yp ?_
  exact hk z1 sc l m _ ⟨ha,S⟩):P:=h
theorem z2c{P:Prop}(h:P:=by
 refine Q6o [] [] 2 2 (i:=5) (j:=6) kr rfl rfl kr rfl rfl kr kr (fun KK hKK=>?_) (fun KK hKK=>?_)
 ·go_simp;refine(Q5h (s:=sc) (l:=l) (m:=m) HKL.out.1 _ S.out.inw (HKL.out.2.at gR S)).mono ?_;rintro e W ⟨rfl,st⟩;replace S:=Hd (S.out.call st);clear st;rw[HDL.out];refine Yw [] 1 6 ?_;intro KK hKK;refine Q3c S rfl ?_;clear S;intro z2 W S;refine Yw [] 0 7 ?_;intro KK hKK;refine Q0y (sub:=(L0o d1 d2 d3)) S rfl rfl rfl rfl ?_;clear S;intro W S;refine Ey ?_;try refine yp ?_
  exact hk z2 _ S
 ·refine Q3c S rfl ?_;clear S;intro z2 W S;refine Yw [] 1 5 ?_;intro KK hKK;go_simp;refine(Q5h (s:=sc) (l:=l) (m:=m) HKL.out.1 _ S.out.inw (HKL.out.2.at gR S)).mono ?_;rintro e W ⟨rfl,st⟩;replace S:=Hd (S.out.call st);clear st;rw[HDL.out];refine Yw [] 0 7 ?_;intro KK hKK;refine Q0y (sub:=(L0o d1 d2 d3)) S rfl rfl rfl rfl ?_;clear S;intro W S;refine Ey ?_;try refine yp ?_
  exact hk z2 _ S):P:=h
theorem z2d{P:Prop}(h:P:=by
 refine Q6o [] [] 2 2 (i:=5) (j:=6) kr rfl rfl kr rfl rfl kr kr (fun KK hKK=>?_) (fun KK hKK=>?_)
 ·go_simp;refine(Q5h (s:=sc) (l:=l) (m:=m) HKR.out.1 _ S.out.inw (HKR.out.2.at gR S)).mono ?_;rintro e W ⟨rfl,st⟩;replace S:=Hd (S.out.call st);clear st;rw[HDR.out];refine Yw [] 1 6 ?_;intro KK hKK;refine Q3c S rfl ?_;clear S;intro z3 W S;refine Yw [] 0 7 ?_;intro KK hKK;refine Q0y (sub:=(L0o d1 d2 d3)) S rfl rfl rfl rfl ?_;clear S;intro W S;refine Ey ?_;try refine yp ?_
  exact hk z3 _ S
 ·refine Q3c S rfl ?_;clear S;intro z3 W S;refine Yw [] 1 5 ?_;intro KK hKK;go_simp;refine(Q5h (s:=sc) (l:=l) (m:=m) HKR.out.1 _ S.out.inw (HKR.out.2.at gR S)).mono ?_;rintro e W ⟨rfl,st⟩;replace S:=Hd (S.out.call st);clear st;rw[HDR.out];refine Yw [] 0 7 ?_;intro KK hKK;refine Q0y (sub:=(L0o d1 d2 d3)) S rfl rfl rfl rfl ?_;clear S;intro W S;refine Ey ?_;try refine yp ?_
  exact hk z3 _ S):P:=h
theorem X5w(htl:Q0r J vl tl)(hvl:Q2n J ((b,mc (.iface 339 (pt lb)) (.iface 339 (pt rb)) sb nb al (.slice pa np pc) none false sp,.t 460)::L0) lb vl)(htr:Q0r J vr tr)(hvr:Q2n J ((b,mc (.iface 339 (pt lb)) (.iface 339 (pt rb)) sb nb al (.slice pa np pc) none false sp,.t 460)::L0) rb vr)(hdd:∀s l m,Q5v tl.kind s l m=Q5v tr.kind s l m)(hk0:tr.kind≠0)(hs:Q2c J sb)(hn:Nm J nb nmDe)
  (h:∀sc l m,Q3a J sc l m true->Ac (Q1y tr.kind 461 459 460) #[pt b,.pointer (some (ad (Q1y tr.kind sc l m) 0))] J ((b,mc (.iface 339 (pt lb)) (.iface 339 (pt rb)) sb nb al (.slice pa np pc) none false sp,.t 460)::L0) R (Z8w (.iface 339 (pt lb)) (.iface 339 (pt rb)) b sb nb al N np sp t bs VB)):
  Ac 232 #[pt b,.nilFunc] J ((b,mc (.iface 339 (pt lb)) (.iface 339 (pt rb)) sb nb al (.slice pa np pc) none false sp,.t 460)::L0) R (Z8w (.iface 339 (pt lb)) (.iface 339 (pt rb)) b sb nb al N np sp t bs VB):=by
 intro M I w W S;have HKL:=Hd (And.intro htl.ak hvl);have HKR:=Hd (And.intro htr.ak hvr);have HDD:=Hd hdd;have HE:=Hd hk0;have HS:=Hd (nd3 hs hn trivial);have HH0:=Hd h;clear htl hvl htr hvr hdd hk0 hs hn h;simp only[mc]at S HKL HKR;go_enter func232,ntmps232;go_wp2_with (refine wk ?_)
 refine Rg S [(b,L0p lb rb sb nb pa np pc sp al,.t 460)] [] [] [0,1,2,3,4,5,6,7] 7 fun W S=>?_;refine tk1 ?_;apply Z6c (fun z1 sc l m W=>Q3a J sc l m true/\Hid (St M I J w W ((z1,L1o sc l m,.t 111)::(b,L0p lb rb sb nb pa np pc sp al,.t 460)::L0) R))
 ·intro hk;exact z2b
 clear S;rintro z1 sc l m W ⟨ha,S⟩;obtain⟨d1,d2,d3,hd⟩:=Q6u HKR.out.1 sc l m;have HDR:=Hd hd;have HDL:=Hd ((HDD.out sc l m).trans hd);have HH:=Hd (Z1g (nb:=nb) HKR.out.1 (HH0.out sc l m ha));have ha:=Hd ha;rw[hd]at HH;simp only[mc,Q0v]at HH;clear hd;go_wp2_with (refine wk ?_)
 refine Rg S [(b,L0p lb rb sb nb pa np pc sp al,.t 460),(z1,L1o sc l m,.t 111)] [] [] [0,1,2,3,4] 3 fun W S=>?_;refine tk1 ?_;apply Q8w (fun z2 W=>Hid (St M I J w W ((z2,L0o d1 d2 d3,.t 111)::(z1,L1o sc l m,.t 111)::(b,L0p lb rb sb nb pa np pc sp al,.t 460)::L0) R))
 ·intro hk;exact z2c
 clear S;intro z2 W S;go_wp2_with (refine wk ?_)
 refine Rg S [(b,L0p lb rb sb nb pa np pc sp al,.t 460),(z1,L1o sc l m,.t 111)] [] [] [0,1,2,3,4] 3 fun W S=>?_;refine tk1 ?_;apply Q8w (fun z3 W=>Hid (St M I J w W ((z3,L0o d1 d2 d3,.t 111)::(z2,L0o d1 d2 d3,.t 111)::(z1,L1o sc l m,.t 111)::(b,L0p lb rb sb nb pa np pc sp al,.t 460)::L0) R))
 ·intro hk;exact z2d
 clear S;intro z3 W S;go_wp2_with (first|go_at_call 168;refine Q0a S (X8e (L:=[(z3,L0o d1 d2 d3,.t 111),(z2,L0o d1 d2 d3,.t 111)]) (b1:=z2) (o1:=0) (b2:=z3) (o2:=0) (c:=(L0o d1 d2 d3)) HE.out ha.out HDR.out (Sees.blk (List.mem_cons_of_mem _ (List.mem_cons_self ..)) fun i u h=>by simpa using h) (Sees.blk (List.mem_cons_self ..) fun i u h=>by simpa using h)) ?_;rintro r7 K7 L7 R7 W7 hle7 ⟨hKJ,rfl,rfl,rfl⟩ S2;have hJK:=hKJ.symm;subst hJK;clear S;have S:=S2;clear S2;simp only[List.cons_append,List.nil_append]at S|refine wk ?_)
 refine Rg S [(b,L0p lb rb sb nb pa np pc sp al,.t 460),(z3,L0o d1 d2 d3,.t 111)] [] [8] [1,2,3,4,5,6,7] 4 fun W S=>?_;refine tk1 ?_;refine Z4d [0] 3 kr rfl kr (vw S gR) ?_;refine tkf ?_;refine Sh [] 2 8 fun KK hKK=>?_;go_simp;refine Q0a S HH.out ?_;rintro r5 K5 L5 R5 W' hle5 ⟨rfl,o,val,il,n2,sp2,PB2,PR2,pa2,pc2,hn2,hsp2,hp2,ho2,hv2,rfl,rfl⟩ S2;have HP:=Hd (nd6 hn2 hsp2 hp2 ho2 hv2 hle5);clear S hn2 hsp2 hp2 ho2 hv2;have S:=S2;clear S2;replace S:=sa S;(try simp only[mc]at S);refine hKK.out _ _ ?_;clear hKK KK;refine yf ?_;refine Sh [10] 0 9 fun KK hKK=>?_;refine Q4b rfl rfl rfl underlying373 Z0q ?_;refine hKK.out _ _ ?_;clear hKK KK;refine tkf ?_;refine En ?_;cases il with
 |true=>
  go_wp2_with (first|go_at_call 260;refine got S (Q7m _ none 0 _) ?_;clear S;intro W S|refine wk ?_)
  go_ret;refine ap HP.out.2.2.2.2.2 ⟨rfl,o,val,true,n2,sp2,PB2,PR2,pa2,pc2,HP.out.1,HP.out.2.1,HP.out.2.2.1,HP.out.2.2.2.1,HP.out.2.2.2.2.1,rfl,rfl⟩ ?_;exact(show St _ _ _ _ _ ((b,[.iface 339 (pt lb),.iface 339 (pt rb),pt sb,pt nb,pn,pn,pn,pn,.bool false,.slice pa2 np pc2,.func (.func 182) #[] #[],.nilFunc,pt o,.bool true,.pointer sp2,.iface 340 (pt al)],.t 460)::(PB2++VB)) (pathRw pa2 np pc2 bs::PR2)from keep S)
 |false=>
  go_wp2_with (first|go_at_call 260;refine got S (Q7m _ none 0 _) ?_;clear S;intro W S|refine wk ?_)
  go_ret;refine ap HP.out.2.2.2.2.2 ⟨rfl,o,val,false,n2,sp2,PB2,PR2,pa2,pc2,HP.out.1,HP.out.2.1,HP.out.2.2.1,HP.out.2.2.2.1,HP.out.2.2.2.2.1,rfl,rfl⟩ ?_;exact(show St _ _ _ _ _ ((b,[.iface 339 (pt lb),.iface 339 (pt rb),pt sb,pt nb,pn,pn,pn,pn,.bool false,.slice pa2 np pc2,.func (.func 182) #[] #[],.nilFunc,pt o,.bool false,.pointer sp2,.iface 340 (pt al)],.t 460)::(PB2++VB)) (pathRw pa2 np pc2 bs::PR2)from keep S)
theorem z2e{P:Prop}(h:P:=by
 refine Yw [] 0 7 ?_;intro KK hKK;refine Q0y (sub:=(L1o sc l m)) S rfl rfl rfl rfl ?_;clear S;intro W S;refine Ey ?_;try refine yp ?_
 exact hk z3 _ S):P:=h
theorem mergL_s{rb:Nat}(htl:Q0r J vl tl)(hvl:Q2n J ((b,mc (.iface 339 (pt lb)) .nilIface sb nb al (.slice pa np pc) none false sp,.t 460)::L0) lb vl)(hs:Q2c J sb)(hn:Nm J nb nmDe)
  (h:∀sc l m,Q3a J sc l m true->Ac (Q1y tl.kind 461 459 460) #[pt b,.pointer (some (ad (Q1y tl.kind sc l m) 0))] J ((b,mc (.iface 339 (pt lb)) .nilIface sb nb al (.slice pa np pc) none false sp,.t 460)::L0) R (Z8w (.iface 339 (pt lb)) .nilIface b sb nb al N np sp t bs VB)):
  Ac 232 #[pt b,.nilFunc] J ((b,mc (.iface 339 (pt lb)) .nilIface sb nb al (.slice pa np pc) none false sp,.t 460)::L0) R (Z8w (.iface 339 (pt lb)) .nilIface b sb nb al N np sp t bs VB):=by
 intro M I w W S;have HKL:=Hd (And.intro htl.ak hvl);skip;skip;skip;have HS:=Hd (nd3 hs hn trivial);have HH0:=Hd h;clear htl hvl hs hn h;simp only[mc]at S HKL;go_enter func232,ntmps232;go_wp2_with (refine wk ?_)
 refine Rg S [(b,L0s lb sb nb pa np pc sp al,.t 460)] [] [] [0,1,2,3,4,5,6,7] 7 fun W S=>?_;refine tk1 ?_;apply Z6c (fun z1 sc l m W=>Q3a J sc l m true/\Hid (St M I J w W ((z1,L1o sc l m,.t 111)::(b,L0s lb sb nb pa np pc sp al,.t 460)::L0) R))
 ·intro hk;exact z2b
 clear S;rintro z1 sc l m W ⟨ha,S⟩;obtain⟨d1,d2,d3,hd⟩:=Q6u HKL.out.1 sc l m;have HDL:=Hd hd;have HH:=Hd (Z1g (nb:=nb) HKL.out.1 (HH0.out sc l m ha));have ha:=Hd ha;rw[hd]at HH;simp only[mc,Q0v]at HH;clear hd;go_wp2_with (refine wk ?_)
 refine Rg S [(b,L0s lb sb nb pa np pc sp al,.t 460),(z1,L1o sc l m,.t 111)] [] [] [0,1,2,3,4] 3 fun W S=>?_;refine tk1 ?_;apply Q8w (fun z2 W=>Hid (St M I J w W ((z2,L0o d1 d2 d3,.t 111)::(z1,L1o sc l m,.t 111)::(b,L0s lb sb nb pa np pc sp al,.t 460)::L0) R))
 ·intro hk;exact z2c
 clear S;intro z2 W S;go_wp2_with (refine wk ?_)
 refine Rg S [(b,L0s lb sb nb pa np pc sp al,.t 460),(z1,L1o sc l m,.t 111)] [] [] [0,1,2,3,4] 3 fun W S=>?_;refine tk1 ?_;apply Q8w (fun z3 W=>Hid (St M I J w W ((z3,L1o sc l m,.t 111)::(z2,L0o d1 d2 d3,.t 111)::(z1,L1o sc l m,.t 111)::(b,L0s lb sb nb pa np pc sp al,.t 460)::L0) R))
 ·intro hk;refine Q6o [] [] 2 2 (i:=5) (j:=6) kr rfl rfl kr rfl rfl kr kr (fun KK hKK=>?_) (fun KK hKK=>?_)
  ·go_simp;refine(Q5s (s:=sc) (l:=l) (m:=m) _ S.out.inw).mono ?_;rintro e W ⟨rfl,st⟩;replace S:=Hd (S.out.call st);clear st;unfold Q1j;refine Yw [] 1 6 ?_;intro KK hKK;refine Q3c S rfl ?_;clear S;intro z3 W S;exact z2e
  ·refine Q3c S rfl ?_;clear S;intro z3 W S;refine Yw [] 1 5 ?_;intro KK hKK;go_simp;refine(Q5s (s:=sc) (l:=l) (m:=m) _ S.out.inw).mono ?_;rintro e W ⟨rfl,st⟩;replace S:=Hd (S.out.call st);clear st;unfold Q1j;exact z2e
 clear S;intro z3 W S;go_wp2_with (refine wk ?_)
 refine Rg S [(b,L0s lb sb nb pa np pc sp al,.t 460),(z2,L0o d1 d2 d3,.t 111)] [] [8] [1,2,3,4,5,6,7] 4 fun W S=>?_;refine tk1 ?_;refine Z4d [0] 3 kr rfl kr (vw S gR) ?_;refine tkf ?_;refine Sh [] 2 8 fun KK hKK=>?_;go_simp;refine Q0a S HH.out ?_;rintro r5 K5 L5 R5 W' hle5 ⟨rfl,o,val,il,n2,sp2,PB2,PR2,pa2,pc2,hn2,hsp2,hp2,ho2,hv2,rfl,rfl⟩ S2;have HP:=Hd (nd6 hn2 hsp2 hp2 ho2 hv2 hle5);clear S hn2 hsp2 hp2 ho2 hv2;have S:=S2;clear S2;replace S:=sa S;(try simp only[mc]at S);refine hKK.out _ _ ?_;clear hKK KK;refine yf ?_;refine Sh [10] 0 9 fun KK hKK=>?_;refine Q4b rfl rfl rfl underlying373 Z0q ?_;refine hKK.out _ _ ?_;clear hKK KK;refine tkf ?_;refine En ?_;cases il with
 |true=>
  go_wp2_with (first|go_at_call 260;refine got S (Q7m _ none 0 _) ?_;clear S;intro W S|refine wk ?_)
  go_ret;refine ap HP.out.2.2.2.2.2 ⟨rfl,o,val,true,n2,sp2,PB2,PR2,pa2,pc2,HP.out.1,HP.out.2.1,HP.out.2.2.1,HP.out.2.2.2.1,HP.out.2.2.2.2.1,rfl,rfl⟩ ?_;exact(show St _ _ _ _ _ ((b,[.iface 339 (pt lb),.nilIface,pt sb,pt nb,pn,pn,pn,pn,.bool false,.slice pa2 np pc2,.func (.func 182) #[] #[],.nilFunc,pt o,.bool true,.pointer sp2,.iface 340 (pt al)],.t 460)::(PB2++VB)) (pathRw pa2 np pc2 bs::PR2)from keep S)
 |false=>
  go_wp2_with (first|go_at_call 260;refine got S (Q7m _ none 0 _) ?_;clear S;intro W S|refine wk ?_)
  go_ret;refine ap HP.out.2.2.2.2.2 ⟨rfl,o,val,false,n2,sp2,PB2,PR2,pa2,pc2,HP.out.1,HP.out.2.1,HP.out.2.2.1,HP.out.2.2.2.1,HP.out.2.2.2.2.1,rfl,rfl⟩ ?_;exact(show St _ _ _ _ _ ((b,[.iface 339 (pt lb),.nilIface,pt sb,pt nb,pn,pn,pn,pn,.bool false,.slice pa2 np pc2,.func (.func 182) #[] #[],.nilFunc,pt o,.bool false,.pointer sp2,.iface 340 (pt al)],.t 460)::(PB2++VB)) (pathRw pa2 np pc2 bs::PR2)from keep S)
theorem z2f{P:Prop}(h:P:=by
 refine Yw [] 0 7 ?_;intro KK hKK;refine Q0y (sub:=(L1o sc l m)) S rfl rfl rfl rfl ?_;clear S;intro W S;refine Ey ?_;try refine yp ?_
 exact hk z2 _ S):P:=h
theorem mergR_s{lb:Nat}(htr:Q0r J vr tr)(hvr:Q2n J ((b,mc .nilIface (.iface 339 (pt rb)) sb nb al (.slice pa np pc) none false sp,.t 460)::L0) rb vr)(hs:Q2c J sb)(hn:Nm J nb nmDe)
  (h:∀sc l m,Q3a J sc l m true->Ac (Q1y tr.kind 461 459 460) #[pt b,.pointer (some (ad (Q1y tr.kind sc l m) 0))] J ((b,mc .nilIface (.iface 339 (pt rb)) sb nb al (.slice pa np pc) none false sp,.t 460)::L0) R (Z8w .nilIface (.iface 339 (pt rb)) b sb nb al N np sp t bs VB)):
  Ac 232 #[pt b,.nilFunc] J ((b,mc .nilIface (.iface 339 (pt rb)) sb nb al (.slice pa np pc) none false sp,.t 460)::L0) R (Z8w .nilIface (.iface 339 (pt rb)) b sb nb al N np sp t bs VB):=by
 intro M I w W S;skip;have HKR:=Hd (And.intro htr.ak hvr);skip;skip;have HS:=Hd (nd3 hs hn trivial);have HH0:=Hd h;clear htr hvr hs hn h;simp only[mc]at S HKR;go_enter func232,ntmps232;go_wp2_with (refine wk ?_)
 refine Rg S [(b,L0r rb sb nb pa np pc sp al,.t 460)] [] [] [0,1,2,3,4,5,6,7] 7 fun W S=>?_;refine tk1 ?_;apply Z6c (fun z1 sc l m W=>Q3a J sc l m true/\Hid (St M I J w W ((z1,L1o sc l m,.t 111)::(b,L0r rb sb nb pa np pc sp al,.t 460)::L0) R))
 ·intro hk;exact z2b
 clear S;rintro z1 sc l m W ⟨ha,S⟩;obtain⟨d1,d2,d3,hd⟩:=Q6u HKR.out.1 sc l m;have HDR:=Hd hd;have HH:=Hd (Z1g (nb:=nb) HKR.out.1 (HH0.out sc l m ha));have ha:=Hd ha;rw[hd]at HH;simp only[mc,Q0v]at HH;clear hd;go_wp2_with (refine wk ?_)
 refine Rg S [(b,L0r rb sb nb pa np pc sp al,.t 460),(z1,L1o sc l m,.t 111)] [] [] [0,1,2,3,4] 3 fun W S=>?_;refine tk1 ?_;apply Q8w (fun z2 W=>Hid (St M I J w W ((z2,L1o sc l m,.t 111)::(z1,L1o sc l m,.t 111)::(b,L0r rb sb nb pa np pc sp al,.t 460)::L0) R))
 ·intro hk;refine Q6o [] [] 2 2 (i:=5) (j:=6) kr rfl rfl kr rfl rfl kr kr (fun KK hKK=>?_) (fun KK hKK=>?_)
  ·go_simp;refine(Q5s (s:=sc) (l:=l) (m:=m) _ S.out.inw).mono ?_;rintro e W ⟨rfl,st⟩;replace S:=Hd (S.out.call st);clear st;unfold Q1j;refine Yw [] 1 6 ?_;intro KK hKK;refine Q3c S rfl ?_;clear S;intro z2 W S;exact z2f
  ·refine Q3c S rfl ?_;clear S;intro z2 W S;refine Yw [] 1 5 ?_;intro KK hKK;go_simp;refine(Q5s (s:=sc) (l:=l) (m:=m) _ S.out.inw).mono ?_;rintro e W ⟨rfl,st⟩;replace S:=Hd (S.out.call st);clear st;unfold Q1j;exact z2f
 clear S;intro z2 W S;go_wp2_with (refine wk ?_)
 refine Rg S [(b,L0r rb sb nb pa np pc sp al,.t 460),(z1,L1o sc l m,.t 111)] [] [] [0,1,2,3,4] 3 fun W S=>?_;refine tk1 ?_;apply Q8w (fun z3 W=>Hid (St M I J w W ((z3,L0o d1 d2 d3,.t 111)::(z2,L1o sc l m,.t 111)::(z1,L1o sc l m,.t 111)::(b,L0r rb sb nb pa np pc sp al,.t 460)::L0) R))
 ·intro hk;exact z2d
 clear S;intro z3 W S;go_wp2_with (refine wk ?_)
 refine Rg S [(b,L0r rb sb nb pa np pc sp al,.t 460),(z3,L0o d1 d2 d3,.t 111)] [] [8] [1,2,3,4,5,6,7] 4 fun W S=>?_;refine tk1 ?_;refine Z4d [0] 3 kr rfl kr (vw S gR) ?_;refine tkf ?_;refine Sh [] 2 8 fun KK hKK=>?_;go_simp;refine Q0a S HH.out ?_;rintro r5 K5 L5 R5 W' hle5 ⟨rfl,o,val,il,n2,sp2,PB2,PR2,pa2,pc2,hn2,hsp2,hp2,ho2,hv2,rfl,rfl⟩ S2;have HP:=Hd (nd6 hn2 hsp2 hp2 ho2 hv2 hle5);clear S hn2 hsp2 hp2 ho2 hv2;have S:=S2;clear S2;replace S:=sa S;(try simp only[mc]at S);refine hKK.out _ _ ?_;clear hKK KK;refine yf ?_;refine Sh [10] 0 9 fun KK hKK=>?_;refine Q4b rfl rfl rfl underlying373 Z0q ?_;refine hKK.out _ _ ?_;clear hKK KK;refine tkf ?_;refine En ?_;cases il with
 |true=>
  go_wp2_with (first|go_at_call 260;refine got S (Q7m _ none 0 _) ?_;clear S;intro W S|refine wk ?_)
  go_ret;refine ap HP.out.2.2.2.2.2 ⟨rfl,o,val,true,n2,sp2,PB2,PR2,pa2,pc2,HP.out.1,HP.out.2.1,HP.out.2.2.1,HP.out.2.2.2.1,HP.out.2.2.2.2.1,rfl,rfl⟩ ?_;exact(show St _ _ _ _ _ ((b,[.nilIface,.iface 339 (pt rb),pt sb,pt nb,pn,pn,pn,pn,.bool false,.slice pa2 np pc2,.func (.func 182) #[] #[],.nilFunc,pt o,.bool true,.pointer sp2,.iface 340 (pt al)],.t 460)::(PB2++VB)) (pathRw pa2 np pc2 bs::PR2)from keep S)
 |false=>
  go_wp2_with (first|go_at_call 260;refine got S (Q7m _ none 0 _) ?_;clear S;intro W S|refine wk ?_)
  go_ret;refine ap HP.out.2.2.2.2.2 ⟨rfl,o,val,false,n2,sp2,PB2,PR2,pa2,pc2,HP.out.1,HP.out.2.1,HP.out.2.2.1,HP.out.2.2.2.1,HP.out.2.2.2.2.1,rfl,rfl⟩ ?_;exact(show St _ _ _ _ _ ((b,[.nilIface,.iface 339 (pt rb),pt sb,pt nb,pn,pn,pn,pn,.bool false,.slice pa2 np pc2,.func (.func 182) #[] #[],.nilFunc,pt o,.bool false,.pointer sp2,.iface 340 (pt al)],.t 460)::(PB2++VB)) (pathRw pa2 np pc2 bs::PR2)from keep S)
theorem Z7y{x y:Option Tr}(h:X4j x y=none):x=none/\y=none:=by
 cases x<;>cases y<;>first|exact⟨rfl,rfl⟩|simp[X4j]at h
theorem X8f{o:Option Nat}{m:KV}{t:Option Tr}(h:MIs J o m t)(hn:∀k,findK (fldO t) k=none):m=[]:=by
 cases m with
 |nil=>rfl
 |cons p m=>
  rcases Q6a h p.1 with⟨h1,_⟩|⟨v,u,_,h2,_⟩
  ·rw[Q0k,if_pos rfl]at h1;cases h1
  ·rw[hn]at h2;cases h2
theorem Q4c{n:Nat}{PB:List Blk}{PR:List Rw}{v:Value}{u:Value}{K:Gh}{L':List Blk}{R':List Rw}(hle:J.le K)(hp:Pool 460 693 456 16 n sp PB PR)(hn:n<=N)(hv:Q0r J v t)
  (h:u=.tuple #[]/\∃o,K.cell (ad o 0) v/\L'=(b,mc lv rv sb nb al (.slice pa np pc) (some (ad o 0)) true sp,.t 460)::(PB++VB)/\R'=pathRw pa np pc bs::PR):u=.tuple #[]/\Z8w lv rv b sb nb al N np sp t bs VB (sn) K L' R':=by
 obtain⟨hu,o,ho,h1,h2⟩:=h;exact⟨hu,rfl,o,v,true,n,sp,PB,PR,pa,pc,hn,.same,hp,ho,hv.mono hle,h1,h2⟩
theorem Q6t{path:Value}{il:Bool}{out:OA}:Sees J ((b,mc lv rv sb nb al path out il sp,.t 460)::L0) b 15 [.iface 340 (pt al)]:=Sees.blk (List.mem_cons_self ..) fun i u h=>by
 match i,h with
 |0,h=>simpa[mc]using h
 |i+1,h=>simp at h
theorem merge_leaf(h:tr.kind≠6):Q0d tl tr=tr:=by cases tl<;>cases tr<;>simp_all [Q0d,Tr.kind]
theorem mall:∀z,MAll z:=by
 intro z;induction z with
 |zero=>
  intro J vl vr lo ro lb rb VB h1 h2 hsome hal hz;exfalso;cases h1 with
  |none=>
   cases h2 with
   |none=>rcases hsome with h|h<;>cases h
   |some v t _ h=>have:=Q1l t;simp only[osz]at hz;omega
  |some v t _ h=>have:=Q1l t;simp only[osz]at hz;omega
 |succ z IH=>
  intro J vl vr lo ro lb rb VB h1 h2 hsome hal hz N b sb nb al n np sp PB PR bs pa pc hN hnN hsch hnm hp hbs hD;have hsub:∀{x:List Value},∀y∈VB,y∈(b,x,Bt.t 460)::(PB++VB):=fun y hy=>List.mem_cons_of_mem _ (List.mem_append_right _ hy);have hsub0:∀y∈VB,y∈PB++VB:=fun y hy=>List.mem_append_right _ hy;cases h1 with
  |some vl tl _ htl hvl hnl=>
   cases h2 with
   |some vr tr _ htr hvr hnr=>
    obtain⟨k1,k2,k3,k4⟩:=Z8m (hal _ _ rfl rfl) hnl hnr;simp only[vif_s];by_cases h6:tr.kind=6
    ·refine X5w htl (hvl.sub hsub) htr (hvr.sub hsub) (fun sc l m=>by rw[k3.2 h6,h6]) k2 hsch hnm fun sc l m hat=>?_;obtain⟨_,_,n2,g1,g2⟩:=hat;rw[h6];cases htr with
     |map r2 vs2 ts2 hm2 hk2' he2=>
      cases htl with
      |map r1 vs1 ts1 hm1 hk1' he1=>
       refine mmap_s (lo:=some r1) (ro:=some r2) (ml:=vs1) (mr:=vs2) (Z1x Q6t hvl hsub) (Z1x Q6t hvr hsub) hm1 hm2 (.inl rfl) g2 (fun e1 e2=>?_) fun hne=>?_
       ·have e3:=Q5e hk1' e1;have e4:=Q5e hk2' e2;subst e3 e4;exact(Z0c (Q0r.ak (.map r2 vs2 [] hm2 hk2' he2)) (hvr.sub hsub0)).mono fun _ _ _ _ hle h=>Q4c hle hp hnN.1 (by have:Q0r J (.iface 283 (.map (some r2))) (.map []):=.map r2 vs2 [] hm2 hk2' he2;simpa[Q9h,Q0d,Q1x]using this) h
       ·simp only[osz,Tr.size]at hz hN hD;have q1:MIs J (some r1) vs1 (some (.map ts1)):=.some r1 vs1 ts1 hm1 hk1' he1;have q2:MIs J (some r2) vs2 (some (.map ts2)):=.some r2 vs2 ts2 hm2 hk2' he2;rw[mergeL_map (Q2b q1).1 (Q2b q2).1 (.inl rfl)];refine(X0a (ol:=some r1) (or':=some r2) (lo:=some (.map ts1)) (ro:=some (.map ts2)) IH rfl rfl q1 q2 (fun t e=>by cases e;exact hnl) (fun t e=>by cases e;exact hnr) hal b1s b1s hnN hsch g1 g2 hp hbs b1s (.inl rfl) ?_).mono fun _ _ _ _ _ h=>⟨h.1,h⟩
        intro h0;refine hne ⟨?_,?_⟩
        ·exact X8f q1 fun k=>by have:=Q8o (Q2b q1).1 (Q2b q2).1 (Q2b q1).2 (Q2b q2).2 k;rw[h0]at this;exact(Z7y this.symm).1
        ·exact X8f q2 fun k=>by have:=Q8o (Q2b q1).1 (Q2b q2).1 (Q2b q1).2 (Q2b q2).2 k;rw[h0]at this;exact(Z7y this.symm).2
      |null|bool|int|flt|str|list=>have h7:=k3.2 h6;simp[Tr.kind]at h7
     |null|bool|int|flt|str|list=>simp[Tr.kind]at h6
    ·have h6':tl.kind≠6:=fun e=>h6 (k3.1 e);have hmt:Q9h (some tl) (some tr)=tr:=merge_leaf h6;rw[hmt];by_cases h5:tr.kind=5
     ·refine X5w htl (hvl.sub hsub) htr (hvr.sub hsub) (fun sc l m=>by rw[k4.2 h5,h5]) k2 hsch hnm fun sc l m hat=>?_;obtain⟨_,⟨n2,g1,g2⟩,_⟩:=hat;rw[h5];have hleaf:=Z0c (J:=J) (b:=b) (sb:=sb) (nb:=nb) (al:=al) (lv:=.iface 339 (pt lb)) (path:=.slice pa np pc) (sp:=sp) (out:=none) (L0:=PB++VB) (R:=pathRw pa np pc bs::PR) htr.ak (hvr.sub hsub0);obtain⟨A1,n1,c1,rfl⟩:=Q6v htl (k4.2 h5);obtain⟨A2,n3,c2,rfl⟩:=Q6v htr h5;exact X6c (lo:=some (A1,n1,c1)) (ro:=some (A2,n3,c2)) (Z1h Q6t hvl hsub) (Z1h Q6t hvr hsub) (.inl rfl) g2 (hleaf.mono fun _ _ _ _ hle h=>Q4c hle hp hnN.1 htr h)
     ·have h5':tl.kind≠5:=fun e=>h5 (k4.1 e);refine X5w htl (hvl.sub hsub) htr (hvr.sub hsub) (X8g ⟨k1,h5',h6'⟩ ⟨k2,h5,h6⟩) k2 hsch hnm fun sc l m hat=>?_;rw[Z4h ⟨k2,h5,h6⟩,Z4h ⟨k2,h5,h6⟩];exact Z5x (ScOK.some htl.ak ⟨h5',h6'⟩ hat.1 hvl hsub) (ScOK.some htr.ak ⟨h5,h6⟩ hat.1 hvr hsub) ((Z0c htr.ak (hvr.sub hsub0)).mono fun _ _ _ _ hle h=>Q4c hle hp hnN.1 htr h)
   |none=>
    have hk0:tl.kind≠0:=by cases tl<;>simp_all [Q1i,Tr.kind]
    simp only[vif_s,vif_n];have hmt:Q9h (some tl) none=tl:=rfl;rw[hmt];refine mergL_s (rb:=0) htl (hvl.sub hsub) hsch hnm fun sc l m hat=>?_;by_cases h6:tl.kind=6
    ·obtain⟨_,_,n2,g1,g2⟩:=hat;rw[h6];cases htl with
     |map r1 vs1 ts1 hm1 hk1' he1=>
      refine mmap_s (lo:=some r1) (ro:=none) (ml:=vs1) (mr:=[]) (Z1x Q6t hvl hsub) X2f hm1 rfl (.inl rfl) g2 (fun e1 e2=>?_) fun hne=>?_
      ·exact(Z8u (lv:=.nilIface) (Q0r.ak (.map r1 vs1 ts1 hm1 hk1' he1)) (hvl.sub hsub0)).mono fun _ _ _ _ hle h=>Q4c hle hp hnN.1 (.map r1 vs1 ts1 hm1 hk1' he1) h
      ·simp only[osz,Tr.size]at hz hN hD;have q1:MIs J (some r1) vs1 (some (.map ts1)):=.some r1 vs1 ts1 hm1 hk1' he1;refine(X0a (ol:=some r1) (or':=none) (lo:=some (.map ts1)) (ro:=none) IH rfl rfl q1 .none (fun t e=>by cases e;exact hnl) (fun t e=>by cases e) hal b0n b0n hnN hsch g1 g2 hp hbs b0n (.inl rfl) ?_).mono fun _ _ _ _ _ h=>⟨h.1,h⟩
       intro h0;have h0:ts1=[]:=h0;subst h0;refine hne ⟨?_,rfl⟩;simpa using hk1'
     |null|bool|int|flt|str|list=>simp[Tr.kind]at h6
    ·by_cases h5:tl.kind=5
     ·obtain⟨_,⟨n2,g1,g2⟩,_⟩:=hat;rw[h5];have hleaf:=Z8u (lv:=.nilIface) (J:=J) (b:=b) (sb:=sb) (nb:=nb) (al:=al) (path:=.slice pa np pc) (sp:=sp) (out:=none) (L0:=PB++VB) (R:=pathRw pa np pc bs::PR) htl.ak (hvl.sub hsub0);obtain⟨A1,n1,c1,rfl⟩:=Q6v htl h5;exact X6c (lo:=some (A1,n1,c1)) (ro:=none) (Z1h Q6t hvl hsub) X1z (.inl rfl) g2 (hleaf.mono fun _ _ _ _ hle h=>Q4c hle hp hnN.1 htl h)
     ·rw[Z4h ⟨hk0,h5,h6⟩,Z4h ⟨hk0,h5,h6⟩];exact Z5x (ScOK.some htl.ak ⟨h5,h6⟩ hat.1 hvl hsub) ScOK.nil ((Z8u (lv:=.nilIface) htl.ak (hvl.sub hsub0)).mono fun _ _ _ _ hle h=>Q4c hle hp hnN.1 htl h)
  |none=>
   cases h2 with
   |none=>rcases hsome with h|h<;>cases h
   |some vr tr _ htr hvr hnr=>
    have hk0:tr.kind≠0:=by cases tr<;>simp_all [Q1i,Tr.kind]
    simp only[vif_s,vif_n];have hmt:Q9h none (some tr)=tr:=rfl;rw[hmt];refine mergR_s (lb:=0) htr (hvr.sub hsub) hsch hnm fun sc l m hat=>?_;by_cases h6:tr.kind=6
    ·obtain⟨_,_,n2,g1,g2⟩:=hat;rw[h6];cases htr with
     |map r1 vs1 ts1 hm1 hk1' he1=>
      refine mmap_s (lo:=none) (ro:=some r1) (ml:=[]) (mr:=vs1) X2f (Z1x Q6t hvr hsub) rfl hm1 (.inr rfl) g2 (fun e1 e2=>?_) fun hne=>?_
      ·exact(Z0c (Q0r.ak (.map r1 vs1 ts1 hm1 hk1' he1)) (hvr.sub hsub0)).mono fun _ _ _ _ hle h=>Q4c hle hp hnN.1 (.map r1 vs1 ts1 hm1 hk1' he1) h
      ·simp only[osz,Tr.size]at hz hN hD;have q1:MIs J (some r1) vs1 (some (.map ts1)):=.some r1 vs1 ts1 hm1 hk1' he1;refine(X0a (ol:=none) (or':=some r1) (lo:=none) (ro:=some (.map ts1)) IH rfl rfl .none q1 (fun t e=>by cases e) (fun t e=>by cases e;exact hnr) hal b0n b0n hnN hsch g1 g2 hp hbs b0n (.inr rfl) ?_).mono fun _ _ _ _ _ h=>⟨h.1,h⟩
       intro h0;have h0:ts1=[]:=h0;subst h0;refine hne ⟨rfl,?_⟩;simpa using hk1'
     |null|bool|int|flt|str|list=>simp[Tr.kind]at h6
    ·by_cases h5:tr.kind=5
     ·obtain⟨_,⟨n2,g1,g2⟩,_⟩:=hat;rw[h5];have hleaf:=Z0c (J:=J) (b:=b) (sb:=sb) (nb:=nb) (al:=al) (lv:=.nilIface) (path:=.slice pa np pc) (sp:=sp) (out:=none) (L0:=PB++VB) (R:=pathRw pa np pc bs::PR) htr.ak (hvr.sub hsub0);obtain⟨A1,n1,c1,rfl⟩:=Q6v htr h5;exact X6c (lo:=none) (ro:=some (A1,n1,c1)) X1z (Z1h Q6t hvr hsub) (.inr rfl) g2 (hleaf.mono fun _ _ _ _ hle h=>Q4c hle hp hnN.1 htr h)
     ·rw[Z4h ⟨hk0,h5,h6⟩,Z4h ⟨hk0,h5,h6⟩];exact Z5x ScOK.nil (ScOK.some htr.ak ⟨h5,h6⟩ hat.1 hvr hsub) ((Z0c htr.ak (hvr.sub hsub0)).mono fun _ _ _ _ hle h=>Q4c hle hp hnN.1 htr h)
end
end Go.Proofs.YtbmklgemmjgjfaaGreat
