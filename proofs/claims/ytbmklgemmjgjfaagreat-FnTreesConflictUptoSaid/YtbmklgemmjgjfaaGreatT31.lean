/- Part 31: Vml, Vmw, Bar. -/
import Derived.Test.YtbmklgemmjgjfaaGreatT28
import Derived.Test.YtbmklgemmjgjfaaGreatT30
namespace Go.Proofs.YtbmklgemmjgjfaaGreat
open Go.RowKit Go.Maps Tryz
set_option linter.unusedVariables false
set_option linter.unusedSimpArgs false
set_option maxRecDepth 100000
set_option maxHeartbeats 16000000
variable{lv:Value}{R:List Rw}{L0:List Blk}{sp out:OA}{il:Bool}{b sb nb al:Nat}{J:Gh}
section
def mc(lv rv:Value)(sb nb al:Nat)(path:Value)(out:OA)(il:Bool)(sp:OA):List Value:=[lv,rv,pt sb,pt nb,pn,pn,pn,pn,.bool false,path,.func (.func 182) #[] #[],.nilFunc,.pointer out,.bool il,.pointer sp,.iface 340 (pt al)]
variable{v path:Value}{x k:Nat}
theorem ruleR_s(hk:AK v k)(hv:Q2n J ((b,mc lv (.iface 339 (pt x)) sb nb al path out il sp,.t 460)::L0) x v):Ac 182 #[pt b] J ((b,mc lv (.iface 339 (pt x)) sb nb al path out il sp,.t 460)::L0) R
  fun u K L' R'=>u=.tuple #[]/\∃o,K.cell (ad o 0) v/\L'=(b,mc lv (.iface 339 (pt x)) sb nb al path (some (ad o 0)) il sp,.t 460)::L0/\R'=R:=by
 intro M I w W S;have HV:=Hd (And.intro hk hv);have HO:=Hd (show v.oneCell'=true by cases hk<;>rfl);clear hk hv;simp only[mc]at S HV;have hv:=HV.out.2.at gR S;go_enter func182,ntmps182;go_wp2_with (first|go_at_call 387;refine(Q0g (Q7d v _) S.out.inw).mono ?_;rintro e W' ⟨rfl,st⟩;replace S:=Hd (S.out.call st);clear st hv;have hv:=HV.out.2.at gR S|refine wk ?_|refine Q7u (v:=v) S rfl rfl rfl rfl HO.out ?_;clear S;intro W S0;obtain⟨K1,hle1,hk1,S⟩:=S0.out.freeze;clear S0;replace S:=Hd S|refine Ws ?_;clear S;intro W S|refine wn ?_;clear S;intro z W S;clear hv;have hv:=HV.out.2.at gR S)
 refine bodyPost_end (results_none rfl _ _ _) rfl ?_;exact ap hle1 ⟨rfl,z,⟨_,_,_,hk1,rfl,rfl⟩,rfl,rfl⟩ (show St _ _ _ _ _ ((b,[lv,.iface 339 (pt x),pt sb,pt nb,pn,pn,pn,pn,.bool false,path,.func (.func 182) #[] #[],.nilFunc,pt z,.bool il,.pointer sp,.iface 340 (pt al)],.t 460)::L0) R from keep S)
theorem ruleL_s(hk:AK v k)(hv:Q2n J ((b,mc (.iface 339 (pt x)) .nilIface sb nb al path out il sp,.t 460)::L0) x v):Ac 182 #[pt b] J ((b,mc (.iface 339 (pt x)) .nilIface sb nb al path out il sp,.t 460)::L0) R
  fun u K L' R'=>u=.tuple #[]/\∃o,K.cell (ad o 0) v/\L'=(b,mc (.iface 339 (pt x)) .nilIface sb nb al path (some (ad o 0)) il sp,.t 460)::L0/\R'=R:=by
 intro M I w W S;have HV:=Hd (And.intro hk hv);have HO:=Hd (show v.oneCell'=true by cases hk<;>rfl);clear hk hv;simp only[mc]at S HV;have hv:=HV.out.2.at gR S;go_enter func182,ntmps182;go_wp2_with (first|go_at_call 387;refine(Q0g (Q7d v _) S.out.inw).mono ?_;rintro e W' ⟨rfl,st⟩;replace S:=Hd (S.out.call st);clear st hv;have hv:=HV.out.2.at gR S|refine wk ?_|refine Q7u (v:=v) S rfl rfl rfl rfl HO.out ?_;clear S;intro W S0;obtain⟨K1,hle1,hk1,S⟩:=S0.out.freeze;clear S0;replace S:=Hd S|refine Ws ?_;clear S;intro W S|refine wn ?_;clear S;intro z W S;clear hv;have hv:=HV.out.2.at gR S)
 refine bodyPost_end (results_none rfl _ _ _) rfl ?_;exact ap hle1 ⟨rfl,z,⟨_,_,_,hk1,rfl,rfl⟩,rfl,rfl⟩ (show St _ _ _ _ _ ((b,[.iface 339 (pt x),.nilIface,pt sb,pt nb,pn,pn,pn,pn,.bool false,path,.func (.func 182) #[] #[],.nilFunc,pt z,.bool il,.pointer sp,.iface 340 (pt al)],.t 460)::L0) R from keep S)
theorem z2a{P:Prop}(h:P:=by
 have hF:=Go.MuLone.run_callFunc_enter (P:=prog) func182 kr rfl;clear hk hv;intro M I w W S;simp only[mc]at S HC;go_enter func458,ntmps458;go_wp2_with (first|refine wk ?_|refine Ws ?_;clear S;intro W S)
 refine Q0a S HC.out ?_;rintro r5 K5 L5 R5 W' hle5 ⟨rfl,o,ho,rfl,rfl⟩ S2;have ho:=Hd ho;clear S;have S:=S2;clear S2;replace S:=sa S;go_wp2_with fail
 refine bodyPost_end (results_none rfl _ _ _) rfl ?_;exact ap hle5 ⟨rfl,o,ho.out,rfl,rfl⟩ S.out):P:=h
theorem Z0c(hk:AK v k)(hv:Q2n J L0 x v):Ac 458 #[pt b] J ((b,mc lv (.iface 339 (pt x)) sb nb al path out false sp,.t 460)::L0) R
  fun u K L' R'=>u=.tuple #[]/\∃o,K.cell (ad o 0) v/\L'=(b,mc lv (.iface 339 (pt x)) sb nb al path (some (ad o 0)) true sp,.t 460)::L0/\R'=R:=by
 have HC:=Hd (ruleR_s (lv:=lv) (J:=J) (b:=b) (sb:=sb) (nb:=nb) (al:=al) (il:=true) (sp:=sp) (out:=out) (path:=path) (R:=R) hk (hv.sub fun y hy=>List.mem_cons_of_mem _ hy));exact z2a
theorem Z8u{lv:Value}(hk:AK v k)(hv:Q2n J L0 x v):Ac 458 #[pt b] J ((b,mc (.iface 339 (pt x)) .nilIface sb nb al path out false sp,.t 460)::L0) R
  fun u K L' R'=>u=.tuple #[]/\∃o,K.cell (ad o 0) v/\L'=(b,mc (.iface 339 (pt x)) .nilIface sb nb al path (some (ad o 0)) true sp,.t 460)::L0/\R'=R:=by
 have HC:=Hd (ruleL_s (J:=J) (b:=b) (sb:=sb) (nb:=nb) (al:=al) (il:=true) (sp:=sp) (out:=out) (path:=path) (R:=R) hk (hv.sub fun y hy=>List.mem_cons_of_mem _ hy));exact z2a
end
section
variable{Post:Value->Gh->List Blk->List Rw->Prop}{L VB:List Blk}{rv:Value}{pa:OA}{np pc vb nb2:Nat}
theorem Z5x{sc:Nat}(hl:ScOK J ((b,mc lv rv sb nb al (.slice pa np pc) out il sp,.t 460)::L0) sc lv)(hr:ScOK J ((b,mc lv rv sb nb al (.slice pa np pc) out il sp,.t 460)::L0) sc rv)(h:Ac 458 #[pt b] J ((b,mc lv rv sb nb al (.slice pa np pc) out il sp,.t 460)::L0) R (fun u K L' R'=>u=.tuple #[]/\Post (sn) K L' R')):Ac 461 #[pt b,pt sc] J ((b,mc lv rv sb nb al (.slice pa np pc) out il sp,.t 460)::L0) R Post:=by
 intro M I w W S;have HS:=Hd (nd3 hl hr trivial);have HL:=Hd h;clear hl hr h;simp only[mc]at S HS HL;go_enter func461,ntmps461;go_wp2_with (refine wk ?_)
 refine(HS.out.1 _ (vw S gR) _).mono ?_;rintro e W ⟨rfl,st⟩;replace S:=Hd (S.out.call st);clear st;go_wp2_with (refine wk ?_)
 refine(HS.out.2.1 _ (vw S gR) _).mono ?_;rintro e W ⟨rfl,st⟩;replace S:=Hd (S.out.call st);clear st;go_wp2_with (first|go_at_call 458;refine Q0a S HL.out ?_;rintro r5 K5 L5 R5 W' hle5 ⟨rfl,hpost⟩ S2;have hpost:=Hd hpost;clear S;have S:=S2;clear S2;simp only[List.append_nil]at S|refine wk ?_)
 go_ret;exact ap hle5 hpost.out S.out
theorem Z1x{r:Nat}(ha:Sees J L b 15 [.iface 340 (pt al)])(hv:Q2n J VB vb (.iface 283 (.map (some r))))(hs:∀x∈VB,x∈L):Z0l 464 J L b (Q3q vb) (.iface 633 (.map (some r))):=by
 intro w hW s;have HA:=Hd (And.intro (ha w hW 0 _ rfl) (hv.vw hs hW));have hi:=hW.2.2;clear ha hv hW;unfold Q3q;refine Q0c (M:=Nix) hi ?_;intro W S;have ha:=S.out.step.cell HA.out.1 (fun x=>x);have hv:=S.out.step.cell HA.out.2 (fun x=>x);go_enter func464,ntmps464;go_wp2_with (go_at_call 398;refine(Q9y (al:=al) _ S.out.inw hv).mono ?_;rintro e W ⟨rfl,st⟩;replace S:=Hd (S.out.call st);clear st)
 refine bT ?_;exact⟨rfl,S.out.step⟩
theorem X2f:Z0l 464 J L b .nilIface .nilIface:=by
 intro w hW s;refine Q0c (M:=Nix) hW.2.2 ?_;intro W S;go_enter func464,ntmps464;go_wp2_with fail
 refine bT ?_;exact⟨rfl,S.out.step⟩
theorem Z1h{A:OA}{n c:Nat}(ha:Sees J L b 15 [.iface 340 (pt al)])(hv:Q2n J VB vb (.iface 282 (.slice A n c)))(hs:∀x∈VB,x∈L):Z0l 462 J L b (Q3q vb) (.iface 632 (.slice A n c)):=by
 intro w hW s;have HA:=Hd (And.intro (ha w hW 0 _ rfl) (hv.vw hs hW));have hi:=hW.2.2;clear ha hv hW;unfold Q3q;refine Q0c (M:=Nix) hi ?_;intro W S;have ha:=S.out.step.cell HA.out.1 (fun x=>x);have hv:=S.out.step.cell HA.out.2 (fun x=>x);go_enter func462,ntmps462;go_wp2_with (go_at_call 396;refine(Q8m (al:=al) _ S.out.inw hv).mono ?_;rintro e W ⟨rfl,st⟩;replace S:=Hd (S.out.call st);clear st)
 refine bT ?_;exact⟨rfl,S.out.step⟩
theorem X1z:Z0l 462 J L b .nilIface .nilIface:=by
 intro w hW s;refine Q0c (M:=Nix) hW.2.2 ?_;intro W S;go_enter func462,ntmps462;go_wp2_with fail
 refine bT ?_;exact⟨rfl,S.out.step⟩
theorem X6c{lp:Nat}{lo ro:Option (OA×Nat×Nat)}(hl:Z0l 462 J ((b,mc lv rv sb nb al (.slice pa np pc) out il sp,.t 460)::L0) b lv (lstV lo))(hr:Z0l 462 J ((b,mc lv rv sb nb al (.slice pa np pc) out il sp,.t 460)::L0) b rv (lstV ro))(hsome:lo.isSome=true\/ro.isSome=true)
  (hlp:J lp=some (.cells (L1n nb2 Q1p).toArray 332 (0,0)))
  (h:Ac 458 #[pt b] J ((b,mc lv rv sb nb al (.slice pa np pc) out il sp,.t 460)::L0) R (fun u K L' R'=>u=.tuple #[]/\Post (sn) K L' R')):Ac 459 #[pt b,pt lp] J ((b,mc lv rv sb nb al (.slice pa np pc) out il sp,.t 460)::L0) R Post:=by
 intro M I w W S;have HS:=Hd (And.intro hl hr);have HL:=Hd h;have hrel:J.cell (ad lp 6) (.string Q1p):=⟨_,_,_,hlp,rfl,rfl⟩
 have hnm:=nm_isA;clear hl hr h hlp;simp only[mc]at S HS HL;rcases lo with _|⟨x,n,c⟩<;>rcases ro with _|⟨y,n2,c2⟩
 ·rcases hsome with h|h<;>cases h
 all_goals
  clear hsome
  simp only[lstV_s,lstV_n]at HS
  go_enter_defers func459,ntmps459
  go_wp2_with (refine wk ?_)
  refine(HS.out.1 _ (vw S gR) _).mono ?_
  rintro e W ⟨rfl,st⟩
  replace S:=Hd (S.out.call st)
  clear st
  go_wp2_with (refine wk ?_)
  refine(HS.out.2 _ (vw S gR) _).mono ?_
  rintro e W ⟨rfl,st⟩
  replace S:=Hd (S.out.call st)
  clear st
  go_wp2_with (first|go_at_call 501;refine(Z3t _ _ _ _).mono ?_;rintro e W2 ⟨rfl,rfl⟩|go_at_call 458;refine Q0a S HL.out ?_;rintro r5 K5 L5 R5 W' hle5 ⟨rfl,hpost⟩ S2;have hpost:=Hd hpost;clear S;have S:=S2;clear S2;simp only[List.append_nil]at S|refine wk ?_)
  all_goals
   (first|refine Q0z _ _ (Q0z _ _ ⟨_,results_tmp rfl _ _ _,?_⟩)|refine Q0z _ _ ⟨_,results_tmp rfl _ _ _,?_⟩)
   go_simp
   exact ap hle5 hpost.out S.out
theorem z2g{P:Prop}(h:P:=by
 go_wp2_with (first|go_at_call 465;refine Q0a S HC.out ?_;rintro r5 K5 L5 R5 W' hle5 ⟨rfl,hpost⟩ S2;have hpost:=Hd hpost;clear S;have S:=S2;clear S2;simp only[List.append_nil]at S|refine Z4o rfl rfl rfl rfl underlying373 Z0q ?_|refine wk ?_)
 exact e0a):P:=h
theorem z2h{P:Prop}(h:P:=by
 go_enter_defers func460,ntmps460;go_wp2_with (refine wk ?_)
 refine(HS.out.1 _ (vw S gR) _).mono ?_;rintro e W ⟨rfl,st⟩;replace S:=Hd (S.out.call st);clear st;go_wp2_with (refine wk ?_)
 refine(HS.out.2 _ (vw S gR) _).mono ?_;rintro e W ⟨rfl,st⟩;replace S:=Hd (S.out.call st);clear st;go_wp2_with (refine wk ?_)
 refine(Q1z r1 ml _ ((show J.map r1 ml from HM.out.1).at S.out.inw)).mono ?_;rintro e W2 ⟨rfl,rfl⟩;exact z2g):P:=h
theorem z2i{P:Prop}(h:P:=by
 go_wp2_with (first|go_at_call 458;refine Q0a S HL.out ?_;rintro r5 K5 L5 R5 W' hle5 ⟨rfl,hpost⟩ S2;have hpost:=Hd hpost;clear S;have S:=S2;clear S2;simp only[List.append_nil]at S|refine wk ?_)
 exact e0a):P:=h
theorem z2j{P:Prop}(h:P:=by
 go_wp2_with (refine wk ?_)
 refine(Q1z r2 mr _ ((show J.map r2 mr from HM.out.2).at S.out.inw)).mono ?_;rintro e W2 ⟨rfl,rfl⟩;exact z2g):P:=h
theorem z2k{P:Prop}(h:P:=by
 go_wp2_with (refine wk ?_)
 refine(Q1z r2 mr _ ((show J.map r2 mr from HM.out.2).at S.out.inw)).mono ?_;rintro e W2 ⟨rfl,rfl⟩;exact z2i):P:=h
theorem mmap_s{mp:Nat}{lo ro:Option Nat}{ml mr:KV}(hl:Z0l 464 J ((b,mc lv rv sb nb al (.slice pa np pc) out il sp,.t 460)::L0) b lv (mapV lo))(hr:Z0l 464 J ((b,mc lv rv sb nb al (.slice pa np pc) out il sp,.t 460)::L0) b rv (mapV ro))(hml:MapO J lo ml)(hmr:MapO J ro mr)(hsome:lo.isSome=true\/ro.isSome=true)
  (hmp:J mp=some (.cells (L1a nb2 Q6r).toArray 337 (0,0)))
  (h1:ml=[]->mr=[]->Ac 458 #[pt b] J ((b,mc lv rv sb nb al (.slice pa np pc) out il sp,.t 460)::L0) R (fun u K L' R'=>u=.tuple #[]/\Post (sn) K L' R'))(h2:¬(ml=[]/\mr=[])->Ac 465 #[pt b,pt mp,mapV lo,mapV ro] J ((b,mc lv rv sb nb al (.slice pa np pc) out il sp,.t 460)::L0) R (fun u K L' R'=>u=sn/\Post u K L' R')):Ac 460 #[pt b,pt mp] J ((b,mc lv rv sb nb al (.slice pa np pc) out il sp,.t 460)::L0) R Post:=by
 intro M I w W S;have HS:=Hd (And.intro hl hr);have HM:=Hd (And.intro hml hmr);have hrel:J.cell (ad mp 8) (.string Q6r):=⟨_,_,_,hmp,rfl,rfl⟩
 have hnm:=Z9x;have el:∀{m:KV},((m.length:Int)==0)=true->m=[]:=fun h=>List.eq_nil_of_length_eq_zero b0b;have en:∀{m:KV},((m.length:Int)==0)=false->m≠[]:=fun h e=>by subst e;simp at h
 have EL:=Hd (And.intro @el @en);have HH:=Hd (And.intro h1 h2);clear hl hr hmp el en h1 h2;simp only[mc]at S HS HH;rcases lo with _|r1<;>rcases ro with _|r2
 ·rcases hsome with h|h<;>cases h
 ·clear hsome;obtain rfl:ml=[]:=hml;clear hmr;simp only[mapV_s,mapV_n]at HS HH;cases her:((mr.length:Int)==0)
  ·have HC:=Hd (HH.out.2 fun h=>EL.out.2 her h.2);go_enter_defers func460,ntmps460;go_wp2_with (refine wk ?_)
   refine(HS.out.1 _ (vw S gR) _).mono ?_;rintro e W ⟨rfl,st⟩;replace S:=Hd (S.out.call st);clear st;go_wp2_with (refine wk ?_)
   refine(HS.out.2 _ (vw S gR) _).mono ?_;rintro e W ⟨rfl,st⟩;replace S:=Hd (S.out.call st);clear st;exact z2j
  ·have HL:=Hd (HH.out.1 b0f (EL.out.1 her));go_enter_defers func460,ntmps460;go_wp2_with (refine wk ?_)
   refine(HS.out.1 _ (vw S gR) _).mono ?_;rintro e W ⟨rfl,st⟩;replace S:=Hd (S.out.call st);clear st;go_wp2_with (refine wk ?_)
   refine(HS.out.2 _ (vw S gR) _).mono ?_;rintro e W ⟨rfl,st⟩;replace S:=Hd (S.out.call st);clear st;exact z2k
 ·clear hsome;obtain rfl:mr=[]:=hmr;clear hml;simp only[mapV_s,mapV_n]at HS HH;cases hel:((ml.length:Int)==0)
  ·have HC:=Hd (HH.out.2 fun h=>EL.out.2 hel h.1);exact z2h
  ·have HL:=Hd (HH.out.1 (EL.out.1 hel) b0f);go_enter_defers func460,ntmps460;go_wp2_with (refine wk ?_)
   refine(HS.out.1 _ (vw S gR) _).mono ?_;rintro e W ⟨rfl,st⟩;replace S:=Hd (S.out.call st);clear st;go_wp2_with (refine wk ?_)
   refine(HS.out.2 _ (vw S gR) _).mono ?_;rintro e W ⟨rfl,st⟩;replace S:=Hd (S.out.call st);clear st;go_wp2_with (refine wk ?_)
   refine(Q1z r1 ml _ ((show J.map r1 ml from HM.out.1).at S.out.inw)).mono ?_;rintro e W2 ⟨rfl,rfl⟩;exact z2i
 ·clear hsome hml hmr;simp only[mapV_s]at HS HH;by_cases hb:((ml.length:Int)==0)=true/\((mr.length:Int)==0)=true
  ·obtain⟨hel,her⟩:=hb;have HL:=Hd (HH.out.1 (EL.out.1 hel) (EL.out.1 her));go_enter_defers func460,ntmps460;go_wp2_with (refine wk ?_)
   refine(HS.out.1 _ (vw S gR) _).mono ?_;rintro e W ⟨rfl,st⟩;replace S:=Hd (S.out.call st);clear st;go_wp2_with (refine wk ?_)
   refine(HS.out.2 _ (vw S gR) _).mono ?_;rintro e W ⟨rfl,st⟩;replace S:=Hd (S.out.call st);clear st;go_wp2_with (refine wk ?_)
   refine(Q1z r1 ml _ ((show J.map r1 ml from HM.out.1).at S.out.inw)).mono ?_;rintro e W2 ⟨rfl,rfl⟩;exact z2k
  ·have HC:=Hd (HH.out.2 fun h=>hb ⟨by rw[h.1];rfl,by rw[h.2];rfl⟩);cases hel:((ml.length:Int)==0);rotate_left
   ·have her:((mr.length:Int)==0)=false:=by
     cases h:((mr.length:Int)==0)
     ·rfl
     ·exact absurd ⟨hel,h⟩ hb
    clear hb;go_enter_defers func460,ntmps460;go_wp2_with (refine wk ?_)
    refine(HS.out.1 _ (vw S gR) _).mono ?_;rintro e W ⟨rfl,st⟩;replace S:=Hd (S.out.call st);clear st;go_wp2_with (refine wk ?_)
    refine(HS.out.2 _ (vw S gR) _).mono ?_;rintro e W ⟨rfl,st⟩;replace S:=Hd (S.out.call st);clear st;go_wp2_with (refine wk ?_)
    refine(Q1z r1 ml _ ((show J.map r1 ml from HM.out.1).at S.out.inw)).mono ?_;rintro e W2 ⟨rfl,rfl⟩;exact z2j
   ·clear hb;exact z2h
end
section
theorem natz(n:Nat):((n:Int)==0)=decide (n=0):=by rw[Bool.eq_iff_iff];simp
theorem z0b{P:Prop}(h:P:=by
 go_enter func28,ntmps28;go_wp2_with fail
 go_ret;exact⟨rfl,(Step.refl hi).alloc _⟩):P:=h
theorem bare_1(I:Gh)(n:Int)(f:Nat)(s:BA)(a1:OA)(n1 c1:Nat)(a2:OA)(n2 c2:Nat)(w:World)(hi:I.In w):
  Calls prog 28 #[.agg (L2c n f s a1 n1 c1 a2 n2 c2).toArray] w (Got Nix I w (.bool false)):=by
 exact z0b
theorem bare_2(I:Gh)(n:Int)(f:Nat)(s:BA)(a1:OA)(n1 c1:Nat)(a2:OA)(n2 c2:Nat)(w:World)(hi:I.In w):
  Calls prog 28 #[.agg (L2l n f s a1 n1 c1 a2 n2 c2).toArray] w (Got Nix I w (.bool false)):=by
 exact z0b
theorem bare_3(I:Gh)(n:Int)(f:Nat)(s:BA)(a1:OA)(n1 c1:Nat)(a2:OA)(n2 c2:Nat)(w:World)(hi:I.In w):
  Calls prog 28 #[.agg (L2k n f s a1 n1 c1 a2 n2 c2).toArray] w (Got Nix I w (.bool false)):=by
 exact z0b
theorem bare_4(I:Gh)(n:Int)(f:Nat)(s:BA)(a1:OA)(n1 c1:Nat)(a2:OA)(n2 c2:Nat)(w:World)(hi:I.In w):
  Calls prog 28 #[.agg (L2s n f s a1 n1 c1 a2 n2 c2).toArray] w (Got Nix I w (.bool false)):=by
 exact z0b
theorem bare_5(I:Gh)(n:Int)(f:Nat)(s:BA)(a1:OA)(n1 c1:Nat)(a2:OA)(n2 c2:Nat)(w:World)(hi:I.In w):
  Calls prog 28 #[.agg (L2j n f s a1 n1 c1 a2 n2 c2).toArray] w (Got Nix I w (.bool (decide (n2=0)))):=by
 go_enter func28,ntmps28;go_wp2_with fail
 go_ret;exact⟨by rw[<-natz];rfl,(Step.refl hi).alloc _⟩
theorem bare_6(I:Gh)(n:Int)(f:Nat)(s:BA)(a1:OA)(n1 c1:Nat)(a2:OA)(n2 c2:Nat)(w:World)(hi:I.In w):
  Calls prog 28 #[.agg (L1i n f s a1 n1 c1 a2 n2 c2).toArray] w (Got Nix I w (.bool (decide (n1=0)||decide (n2=0)))):=by
 go_enter func28,ntmps28;go_wp2_with fail
 ·have e:((n2:Int)==0)=(decide (n1=0)||decide (n2=0)):=by rw[natz,Bool.eq_iff_iff];simp;omega
  go_ret;exact⟨congrArg (fun b=>Ending.returned (.bool b)) e,(Step.refl hi).alloc _⟩
 ·have e:((n1:Int)==0)=(decide (n1=0)||decide (n2=0)):=by rw[natz,Bool.eq_iff_iff];simp;omega
  go_ret;exact⟨congrArg (fun b=>Ending.returned (.bool b)) e,(Step.refl hi).alloc _⟩
theorem bare_0(I:Gh)(k:Int)(h1:(k==1)=false)(h2:(k==2)=false)(h3:(k==3)=false)(h4:(k==4)=false)(h5:(k==5)=false)(h6:(k==6)=false)(n:Int)(f:Nat)(s:BA)(a1:OA)(n1 c1:Nat)(a2:OA)(n2 c2:Nat)(w:World)(hi:I.In w):
  Calls prog 28 #[.agg (L0e k n f s a1 n1 c1 a2 n2 c2).toArray] w (Got Nix I w (.bool true)):=by
 exact z0b
def Q8c:Tr->Bool
 |.null=>true
 |.list l=>l.isEmpty
 |.map m=>m.isEmpty
 |_=>false
theorem insK_ne{α:Type}(m:List (BA×α))(k:BA)(v:α):insK m k v≠[]:=by
 cases m with
 |nil=>simp[insK]
 |cons p m=>unfold insK;split<;>(try split)<;>simp
theorem mkM_ne:∀(acc:KT) (ks:List BA) (ts:List Tr),acc≠[]->mkM acc ks ts≠[]
 |acc,[],ts,h=>by rw[mkM];exact h;all_goals simp
 |acc,k::ks,[],h=>by rw[mkM];exact h;all_goals simp
 |acc,k::ks,t::ts,h=>by rw[mkM];exact mkM_ne _ ks ts (insK_ne acc k t)
theorem bare_x{I:Gh}{v:V6}{x:IV}(hv:VIs I v x)(w:World)(hi:I.In w):Calls prog 28 #[v.agg] w (Got Nix I w (.bool (Q8c x.tr))):=by
 obtain⟨k,n,f,s,ks,l⟩:=x;obtain⟨a1,c1,a2,c2,vs,rfl,_⟩:=hv.inv;simp only[IV.k,IV.n,IV.f,IV.s,IV.ks,IV.l];by_cases k1:k=1
 ·subst k1;have e:Q8c (IV.mk 1 n f s ks l).tr=false:=by simp[IV.tr,Q8c]
  rw[e];exact bare_1 I n f s a1 _ c1 a2 _ c2 w hi
 by_cases k2:k=2
 ·subst k2;have e:Q8c (IV.mk 2 n f s ks l).tr=false:=by simp[IV.tr,Q8c]
  rw[e];exact bare_2 I n f s a1 _ c1 a2 _ c2 w hi
 by_cases k3:k=3
 ·subst k3;have e:Q8c (IV.mk 3 n f s ks l).tr=false:=by simp[IV.tr,Q8c]
  rw[e];exact bare_3 I n f s a1 _ c1 a2 _ c2 w hi
 by_cases k4:k=4
 ·subst k4;have e:Q8c (IV.mk 4 n f s ks l).tr=false:=by simp[IV.tr,Q8c]
  rw[e];exact bare_4 I n f s a1 _ c1 a2 _ c2 w hi
 by_cases k5:k=5
 ·subst k5;have e:Q8c (IV.mk 5 n f s ks l).tr=decide (l.length=0):=by
   cases l<;>simp[IV.tr,Q8c,trL]
  rw[e];exact bare_5 I n f s a1 _ c1 a2 _ c2 w hi
 by_cases k6:k=6
 ·subst k6;have e:Q8c (IV.mk 6 n f s ks l).tr=(decide (ks.length=0)||decide (l.length=0)):=by
   have e1:(IV.mk 6 n f s ks l).tr=.map (mkM [] ks (trL l)):=by simp[IV.tr]
   rw[e1];cases ks with
   |nil=>simp[mkM,Q8c]
   |cons k ks=>
    cases l with
    |nil=>simp[mkM,Q8c,trL]
    |cons y l=>
     have:=mkM_ne (insK [] k y.tr) ks (trL l) (insK_ne _ _ _);simp only[trL,mkM,Q8c];cases hq:mkM (insK [] k y.tr) ks (trL l)with
     |nil=>exact absurd hq this
     |cons _ _=>simp
  rw[e];exact bare_6 I n f s a1 _ c1 a2 _ c2 w hi
 have e:Q8c (IV.mk k n f s ks l).tr=true:=by simp[IV.tr,Q8c,k1,k2,k3,k4,k5,k6]
 rw[e];exact bare_0 I k (by simpa using k1) (by simpa using k2) (by simpa using k3) (by simpa using k4) (by simpa using k5) (by simpa using k6) n f s a1 _ c1 a2 _ c2 w hi
end
end Go.Proofs.YtbmklgemmjgjfaaGreat
