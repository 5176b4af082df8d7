/- Part 30: Vcl, Vcw. -/
import Derived.Test.YtbmklgemmjgjfaaGreatT11
import Derived.Test.YtbmklgemmjgjfaaGreatT20
import Derived.Test.YtbmklgemmjgjfaaGreatT24
import Derived.Test.YtbmklgemmjgjfaaGreatT25
import Derived.Test.YtbmklgemmjgjfaaGreatT26
namespace Go.Proofs.YtbmklgemmjgjfaaGreat
open List (countP_append)
open Go.RowKit Go.Maps Tryz
set_option linter.unusedVariables false
set_option linter.unusedSimpArgs false
set_option maxRecDepth 100000
set_option maxHeartbeats 16000000
variable{R:List Rw}{L VB:List Blk}{pc b sb nb cb al:Nat}{J:Gh}{pa sp:OA}
section
def S3(J:Gh)(rm md aq:Nat)(s:C3)(L:List Blk)(R:List Rw):Prop:=∃LR LM LA RR RM RA,FO J rm s.r LR RR/\FO J md s.m LM RM/\FO J aq s.a LA RA/\L.Perm (LR++(LM++LA))/\R.Perm (RR++(RM++RA))
variable{PR SR:List Rw}{PB SL:List Blk}{s:C3}{rm md aq D rb lb:Nat}
theorem S3.mono{K:Gh}(h:S3 J rm md aq s L R)(l:J.le K):S3 K rm md aq s L R:=by
 obtain⟨LR,LM,LA,RR,RM,RA,h1,h2,h3,hL,hR⟩:=h;exact⟨LR,LM,LA,RR,RM,RA,h1.mono l,h2.mono l,h3.mono l,hL,hR⟩
variable{bs:List Nat}{p:List PE}
theorem ins3R(h:S3 J rm md aq s L R)(hok:s.ok)(hp:All2 (Nm J) bs p)(hc:s.lt (2 ^ 30 -p.length)):
  Ac 148 #[pt rm,.slice pa p.length pc] J L (pathRw pa p.length pc bs::R) fun u K L' R'=>u=.tuple #[]/\K=J/\∃R1,R'=pathRw pa p.length pc bs::R1/\S3 J rm md aq ⟨s.r.ins p,s.m,s.a⟩ L' R1:=by
 obtain⟨LR,LM,LA,RR,RM,RA,h1,h2,h3,hL,hR⟩:=h;refine((Q3t (pa:=pa) (pc:=pc) h1 hok.1 hp (by have:=hc.1;omega)).frame (L:=L) (R:=pathRw pa p.length pc bs::R) (L0:=LM++LA) (R0:=RM++RA) ?_ ?_).mono ?_
 ·exact(show(LR++(LM++LA)).Perm (LR++(LM++LA))from Q2x fun q=>by simp only[countP_append];try ac_rfl).trans hL.symm
 ·exact List.Perm.cons _ ((show(RR++(RM++RA)).Perm (RR++(RM++RA))from Q2x fun q=>by simp only[countP_append];try ac_rfl).trans hR.symm)
 ·rintro u K L' R' _ ⟨L2,R2,⟨rfl,rfl,R3,rfl,hF⟩,rfl,rfl⟩;exact⟨rfl,rfl,R3++(RM++RA),rfl,L2,LM,LA,R3,RM,RA,hF,h2,h3,(Q2x fun q=>by simp only[countP_append];try ac_rfl),(Q2x fun q=>by simp only[countP_append];try ac_rfl)⟩
theorem ins3M(h:S3 J rm md aq s L R)(hok:s.ok)(hp:All2 (Nm J) bs p)(hc:s.lt (2 ^ 30 -p.length)):
  Ac 148 #[pt md,.slice pa p.length pc] J L (pathRw pa p.length pc bs::R) fun u K L' R'=>u=.tuple #[]/\K=J/\∃R1,R'=pathRw pa p.length pc bs::R1/\S3 J rm md aq ⟨s.r,s.m.ins p,s.a⟩ L' R1:=by
 obtain⟨LR,LM,LA,RR,RM,RA,h1,h2,h3,hL,hR⟩:=h;refine((Q3t (pa:=pa) (pc:=pc) h2 hok.2.1 hp (by have:=hc.2.1;omega)).frame (L:=L) (R:=pathRw pa p.length pc bs::R) (L0:=LR++LA) (R0:=RR++RA) ?_ ?_).mono ?_
 ·exact(show(LM++(LR++LA)).Perm (LR++(LM++LA))from Q2x fun q=>by simp only[countP_append];try ac_rfl).trans hL.symm
 ·exact List.Perm.cons _ ((show(RM++(RR++RA)).Perm (RR++(RM++RA))from Q2x fun q=>by simp only[countP_append];try ac_rfl).trans hR.symm)
 ·rintro u K L' R' _ ⟨L2,R2,⟨rfl,rfl,R3,rfl,hF⟩,rfl,rfl⟩;exact⟨rfl,rfl,R3++(RR++RA),rfl,LR,L2,LA,RR,R3,RA,h1,hF,h3,(Q2x fun q=>by simp only[countP_append];try ac_rfl),(Q2x fun q=>by simp only[countP_append];try ac_rfl)⟩
theorem ins3A(h:S3 J rm md aq s L R)(hok:s.ok)(hp:All2 (Nm J) bs p)(hc:s.lt (2 ^ 30 -p.length)):
  Ac 148 #[pt aq,.slice pa p.length pc] J L (pathRw pa p.length pc bs::R) fun u K L' R'=>u=.tuple #[]/\K=J/\∃R1,R'=pathRw pa p.length pc bs::R1/\S3 J rm md aq ⟨s.r,s.m,s.a.ins p⟩ L' R1:=by
 obtain⟨LR,LM,LA,RR,RM,RA,h1,h2,h3,hL,hR⟩:=h;refine((Q3t (pa:=pa) (pc:=pc) h3 hok.2.2 hp (by have:=hc.2.2;omega)).frame (L:=L) (R:=pathRw pa p.length pc bs::R) (L0:=LR++LM) (R0:=RR++RM) ?_ ?_).mono ?_
 ·exact(show(LA++(LR++LM)).Perm (LR++(LM++LA))from Q2x fun q=>by simp only[countP_append];try ac_rfl).trans hL.symm
 ·exact List.Perm.cons _ ((show(RA++(RR++RM)).Perm (RR++(RM++RA))from Q2x fun q=>by simp only[countP_append];try ac_rfl).trans hR.symm)
 ·rintro u K L' R' _ ⟨L2,R2,⟨rfl,rfl,R3,rfl,hF⟩,rfl,rfl⟩;exact⟨rfl,rfl,R3++(RR++RM),rfl,LR,LM,L2,RR,RM,R3,h1,h2,hF,(Q2x fun q=>by simp only[countP_append];try ac_rfl),(Q2x fun q=>by simp only[countP_append];try ac_rfl)⟩
def cc(lv rv:Value)(sb nb cb al:Nat)(path:Value)(il:Bool)(sp:OA):List Value:=[lv,rv,pt sb,pt nb,pn,pn,pn,pn,.bool false,path,pt cb,.bool il,.pointer sp,.iface 340 (pt al)]
def LPost(lv rv:Value)(b sb nb cb al rm md aq D:Nat)(sp pa:OA)(pc:Nat)(PB VB:List Blk)(PR:List Rw)(p:List PE)(bs:List Nat)(s:C3)(R M A:List PE->Prop)(u:Value)(K:Gh)(L':List Blk)(R':List Rw):Prop:=
 u=.tuple #[]/\∃s' SL SR,S3 K rm md aq s' SL SR/\Q3e s p R M A D s'/\L'=(b,cc lv rv sb nb cb al (.slice pa p.length pc) true sp,.t 418)::(PB++(SL++VB))/\R'=pathRw pa p.length pc bs::(PR++SR)
theorem X0h(hS:S3 J rm md aq s SL SR)(hok:s.ok)(hp:All2 (Nm J) bs p)(hc:s.lt (2 ^ 30 -p.length))(hD:p.length<=D)(hcb:∀(i:Nat) u,((L1o rm md aq):List Value)[i]?=some u->J.cell (ad cb (0+i)) u):Ac 426 #[pt b] J ((b,cc .nilIface (.iface 339 (pt rb)) sb nb cb al (.slice pa p.length pc) false sp,.t 418)::(PB++(SL++VB))) (pathRw pa p.length pc bs::(PR++SR)) (LPost .nilIface (.iface 339 (pt rb)) b sb nb cb al rm md aq D sp pa pc PB VB PR p bs s (fun _=>False) (fun _=>False) (fun r=>r=[])):=by
 intro M I w W S;have HA:=Hd (nd6 hS hok hp hc hD hcb);clear hS hok hp hc hD hcb;simp only[cc]at S;go_enter func426,ntmps426;go_wp2_with (first|refine wk ?_|refine Ws ?_;clear S;intro W S)
 refine Rg S [(b,L2d rb sb nb pa p.length pc cb sp al,.t 418)] [] [] [0,1,2,3,4,5,6,7,8,9,10] 1 fun W S=>?_;refine tk29 ?_;refine Wr [] 0 11 fun KK hKK=>?_;go_simp;refine Q0a S (ins3A (pa:=pa) (pc:=pc) HA.out.1 HA.out.2.1 HA.out.2.2.1 HA.out.2.2.2.1) ?_;rintro r5 K5 L5 R5 W' hle5 ⟨rfl,hKJ,R1,rfl,hS2⟩ S2;have hJK:=hKJ.symm;subst hJK;clear S;have S:=S2;clear S2;replace S:=sa S;refine Ey ?_;go_wp2_with fail
 refine bodyPost_end (results_none rfl _ _ _) rfl ?_;exact ap gR ⟨rfl,_,_,_,hS2,Q3e.insA HA.out.2.1 HA.out.2.2.2.2.1,rfl,rfl⟩ (show St _ _ _ _ _ ((b,L2d rb sb nb pa p.length pc cb sp al,.t 418)::(PB++(L5++VB))) (pathRw pa p.length pc bs::(PR++R1))from keep S)
theorem X0f(hS:S3 J rm md aq s SL SR)(hok:s.ok)(hp:All2 (Nm J) bs p)(hc:s.lt (2 ^ 30 -p.length))(hD:p.length<=D)(hcb:∀(i:Nat) u,((L1o rm md aq):List Value)[i]?=some u->J.cell (ad cb (0+i)) u):Ac 426 #[pt b] J ((b,cc (.iface 339 (pt lb)) .nilIface sb nb cb al (.slice pa p.length pc) false sp,.t 418)::(PB++(SL++VB))) (pathRw pa p.length pc bs::(PR++SR)) (LPost (.iface 339 (pt lb)) .nilIface b sb nb cb al rm md aq D sp pa pc PB VB PR p bs s (fun r=>r=[]) (fun _=>False) (fun _=>False)):=by
 intro M I w W S;have HA:=Hd (nd6 hS hok hp hc hD hcb);clear hS hok hp hc hD hcb;simp only[cc]at S;go_enter func426,ntmps426;go_wp2_with (first|refine wk ?_|refine Ws ?_;clear S;intro W S)
 refine Rg S [(b,L2e lb sb nb pa p.length pc cb sp al,.t 418)] [] [] [0,1,2,3,4,5,6,7,8,9,10] 1 fun W S=>?_;refine tk29 ?_;refine Wr [] 0 11 fun KK hKK=>?_;go_simp;refine Q0a S (ins3R (pa:=pa) (pc:=pc) HA.out.1 HA.out.2.1 HA.out.2.2.1 HA.out.2.2.2.1) ?_;rintro r5 K5 L5 R5 W' hle5 ⟨rfl,hKJ,R1,rfl,hS2⟩ S2;have hJK:=hKJ.symm;subst hJK;clear S;have S:=S2;clear S2;replace S:=sa S;refine Ey ?_;go_wp2_with fail
 refine bodyPost_end (results_none rfl _ _ _) rfl ?_;exact ap gR ⟨rfl,_,_,_,hS2,Q3e.insR HA.out.2.1 HA.out.2.2.2.2.1,rfl,rfl⟩ (show St _ _ _ _ _ ((b,L2e lb sb nb pa p.length pc cb sp al,.t 418)::(PB++(L5++VB))) (pathRw pa p.length pc bs::(PR++R1))from keep S)
theorem Z8z{u v:Value}{tl tr:Tr}(hS:S3 J rm md aq s SL SR)(hok:s.ok)(hp:All2 (Nm J) bs p)(hc:s.lt (2 ^ 30 -p.length))(hD:p.length<=D)(hcb:∀(i:Nat) u,((L1o rm md aq):List Value)[i]?=some u->J.cell (ad cb (0+i)) u)(hl:Q0r J u tl)(hr:Q0r J v tr)(hvl:Q2n J VB lb u)(hvr:Q2n J VB rb v):Ac 426 #[pt b] J ((b,cc (.iface 339 (pt lb)) (.iface 339 (pt rb)) sb nb cb al (.slice pa p.length pc) false sp,.t 418)::(PB++(SL++VB))) (pathRw pa p.length pc bs::(PR++SR)) (LPost (.iface 339 (pt lb)) (.iface 339 (pt rb)) b sb nb cb al rm md aq D sp pa pc PB VB PR p bs s (fun _=>False) (fun r=>r=[]/\eqT tr tl=false) (fun _=>False)):=by
 intro M I w W S;have HV:=Hd (nd4 hl hr hvl hvr);clear hl hr hvl hvr;have HA:=Hd (nd6 hS hok hp hc hD hcb);clear hS hok hp hc hD hcb;simp only[cc]at S;by_cases he:eqT tr tl=true;rotate_left
 ·have he:eqT tr tl=false:=by simpa using he
  go_enter func426,ntmps426;go_wp2_with (first|refine wk ?_|refine Ws ?_;clear S;intro W S)
  refine Rg S [(b,L1g lb rb sb nb pa p.length pc cb sp al,.t 418)] [] [] [0,1,2,3,4,5,6,7,8,9,10,11] 2 fun W S=>?_;refine Zw [13] 0 12 ?_;intro KK hKK;go_simp;refine(X0d J tr tl v u _ rb lb _ S.out.inw HV.out.2.1 HV.out.1 (HV.out.2.2.2.at gR S) (HV.out.2.2.1.at gR S)).mono ?_;rintro e W ⟨rfl,st⟩;replace S:=Hd (S.out.call st);clear st;rw[he];refine Et ?_;go_wp2_with fail
  refine Rg S [(b,L1g lb rb sb nb pa p.length pc cb sp al,.t 418)] [] [] [0,1,2,3,4,5,6,7,8,9,10] 1 fun W S=>?_;refine tk29 ?_;refine Wr [] 0 11 fun KK hKK=>?_;go_simp;refine Q0a S (ins3M (pa:=pa) (pc:=pc) HA.out.1 HA.out.2.1 HA.out.2.2.1 HA.out.2.2.2.1) ?_;rintro r5 K5 L5 R5 W' hle5 ⟨rfl,hKJ,R1,rfl,hS2⟩ S2;have hJK:=hKJ.symm;subst hJK;clear S;have S:=S2;clear S2;replace S:=sa S;refine Ey ?_;go_wp2_with fail
  refine bodyPost_end (results_none rfl _ _ _) rfl ?_;exact ap gR ⟨rfl,_,_,_,hS2,(Q3e.insM HA.out.2.1 HA.out.2.2.2.2.1).conv (fun r=>⟨Iff.rfl,by simp[he],Iff.rfl⟩) (Nat.le_refl _),rfl,rfl⟩ (show St _ _ _ _ _ ((b,L1g lb rb sb nb pa p.length pc cb sp al,.t 418)::(PB++(L5++VB))) (pathRw pa p.length pc bs::(PR++R1))from keep S)
 ·go_enter func426,ntmps426;go_wp2_with (first|refine wk ?_|refine Ws ?_;clear S;intro W S)
  refine Rg S [(b,L1g lb rb sb nb pa p.length pc cb sp al,.t 418)] [] [] [0,1,2,3,4,5,6,7,8,9,10,11] 2 fun W S=>?_;refine Zw [13] 0 12 ?_;intro KK hKK;go_simp;refine(X0d J tr tl v u _ rb lb _ S.out.inw HV.out.2.1 HV.out.1 (HV.out.2.2.2.at gR S) (HV.out.2.2.1.at gR S)).mono ?_;rintro e W ⟨rfl,st⟩;replace S:=Hd (S.out.call st);clear st;rw[he];refine Et ?_;go_wp2_with fail
  refine bodyPost_end (results_none rfl _ _ _) rfl ?_;exact ap gR ⟨rfl,_,_,_,HA.out.1,(Q3e.refl HA.out.2.1).conv (fun r=>⟨Iff.rfl,by simp[he],Iff.rfl⟩) (Nat.zero_le _),rfl,rfl⟩ (show St _ _ _ _ _ ((b,L1g lb rb sb nb pa p.length pc cb sp al,.t 418)::(PB++(SL++VB))) (pathRw pa p.length pc bs::(PR++SR))from keep S)
end
section
variable{W:World}
theorem Z4o{ops:Array Oper}{rest:List Oper}{o:Oper}{a:Act}{Q:EAW}{s x:Operand}{t e:TypeId}{z:Value}{size bytes:Nat}(hg:o.guard=none)(ho:o.op=.call {callee:=.builtin .append,args:=#[s,x],argTypes:=#[t,t]})(hs:a.eval s=sn)(hx:a.eval x=sn)
  (ht:prog.underlying t=some (.slice e))(hi:Inf prog e z size bytes)(h:wpList prog ops Q rest (a.put o.dst (sn)) W):wpList prog ops Q (o::rest) a W:=Q0l (Q0b hg _) fun _ hK=>Q4b ho hs hx ht hi (hK _ _ h)
variable{a lv rv:Value}{vb sc np nb2:Nat}{L0:List Blk}
theorem Q2n.vw{L2:List Blk}(h:Q2n J L vb a)(hs:∀x∈L,x∈L2)(hW:Vw J L2 R W):W.cell? (ad vb 0)=some a:=by
 rcases h with h|⟨t,h⟩
 ·exact h.at hW.2.2
 ·have h0:W.heap[vb]?=some (.cells [a].toArray t (0,0)):=hW.1 _ (hs _ h);exact Q0e h0 0
def lstV(o:Option (OA×Nat×Nat)):Value:=match o with
 |some x=>.iface 632 (.slice x.1 x.2.1 x.2.2)
 |none=>.nilIface
theorem lstV_s(x:OA)(n c:Nat):lstV (some (x,n,c))=.iface 632 (.slice x n c):=rfl
theorem lstV_n:lstV none=.nilIface:=rfl
theorem scNil_x{sp:Nat}(p:BA)(w:World)(hi:J.In w):Calls prog 434 #[pt sp,.nilIface,.string p] w (Got Nix J w (sn)):=by
 refine Q0c (M:=Nix) hi ?_;intro W S;go_enter func434,ntmps434;go_wp2_with fail
 go_ret;exact⟨rfl,S.out.step⟩
def ScOK(J:Gh)(L:List Blk)(sc:Nat)(v:Value):Prop:=∀W,Vw J L [] W->∀s,Calls prog 434 #[pt sc,v,.string s] W (Got Nix J W (sn))
theorem ScOK.nil:ScOK J L sc .nilIface:=fun W hW s=>scNil_x s W hW.2.2
theorem ScOK.some{k:Nat}(hk:AK a k)(hk2:k≠5/\k≠6)(hA:J.cell (ad sc 0) (.string nmUn))(hv:Q2n J VB vb a)(hs:∀x∈VB,x∈L):ScOK J L sc (Q3q vb):=fun W hW s=>X9h hk hk2 s hA W hW.2.2 (hv.vw hs hW)
def Z0l(f:FuncId)(J:Gh)(L:List Blk)(b:Nat)(v r:Value):Prop:=∀W,Vw J L [] W->∀s,Calls prog f #[pt b,.string s,v] W (Got Nix J W (.tuple #[r,sn]))
variable{Post:Value->Gh->List Blk->List Rw->Prop}{il:Bool}
theorem Z6n(hl:ScOK J ((b,cc lv rv sb nb cb al (.slice pa np pc) il sp,.t 418)::L0) sc lv)(hr:ScOK J ((b,cc lv rv sb nb cb al (.slice pa np pc) il sp,.t 418)::L0) sc rv)(h:Ac 426 #[pt b] J ((b,cc lv rv sb nb cb al (.slice pa np pc) il sp,.t 418)::L0) R (fun u K L' R'=>u=.tuple #[]/\Post (sn) K L' R')):Ac 429 #[pt b,pt sc] J ((b,cc lv rv sb nb cb al (.slice pa np pc) il sp,.t 418)::L0) R Post:=by
 intro M I w W S;have HS:=Hd (nd3 hl hr trivial);have HL:=Hd h;clear hl hr h;simp only[cc]at S HS HL;go_enter func429,ntmps429;go_wp2_with (refine wk ?_)
 refine(HS.out.1 _ (vw S gR) _).mono ?_;rintro e W ⟨rfl,st⟩;replace S:=Hd (S.out.call st);clear st;go_wp2_with (refine wk ?_)
 refine(HS.out.2.1 _ (vw S gR) _).mono ?_;rintro e W ⟨rfl,st⟩;replace S:=Hd (S.out.call st);clear st;go_wp2_with (first|go_at_call 426;refine Q0a S HL.out ?_;rintro r5 K5 L5 R5 W' hle5 ⟨rfl,hpost⟩ S2;have hpost:=Hd hpost;clear S;have S:=S2;clear S2;simp only[List.append_nil]at S|refine wk ?_)
 go_ret;exact ap hle5 hpost.out S.out
theorem Z2p{r:Nat}(ha:Sees J L b 13 [.iface 340 (pt al)])(hv:Q2n J VB vb (.iface 283 (.map (some r))))(hs:∀x∈VB,x∈L):Z0l 432 J L b (Q3q vb) (.iface 633 (.map (some r))):=by
 intro w hW s;have HA:=Hd (And.intro (ha w hW 0 _ rfl) (hv.vw hs hW));have hi:=hW.2.2;clear ha hv hW;unfold Q3q;refine Q0c (M:=Nix) hi ?_;intro W S;have ha:=S.out.step.cell HA.out.1 (fun x=>x);have hv:=S.out.step.cell HA.out.2 (fun x=>x);go_enter func432,ntmps432;go_wp2_with (go_at_call 398;refine(Q9y (al:=al) _ S.out.inw hv).mono ?_;rintro e W ⟨rfl,st⟩;replace S:=Hd (S.out.call st);clear st)
 refine bT ?_;exact⟨rfl,S.out.step⟩
theorem X1r:Z0l 432 J L b .nilIface .nilIface:=by
 intro w hW s;refine Q0c (M:=Nix) hW.2.2 ?_;intro W S;go_enter func432,ntmps432;go_wp2_with fail
 refine bT ?_;exact⟨rfl,S.out.step⟩
theorem Z2n{A:OA}{n c:Nat}(ha:Sees J L b 13 [.iface 340 (pt al)])(hv:Q2n J VB vb (.iface 282 (.slice A n c)))(hs:∀x∈VB,x∈L):Z0l 430 J L b (Q3q vb) (.iface 632 (.slice A n c)):=by
 intro w hW s;have HA:=Hd (And.intro (ha w hW 0 _ rfl) (hv.vw hs hW));have hi:=hW.2.2;clear ha hv hW;unfold Q3q;refine Q0c (M:=Nix) hi ?_;intro W S;have ha:=S.out.step.cell HA.out.1 (fun x=>x);have hv:=S.out.step.cell HA.out.2 (fun x=>x);go_enter func430,ntmps430;go_wp2_with (go_at_call 396;refine(Q8m (al:=al) _ S.out.inw hv).mono ?_;rintro e W ⟨rfl,st⟩;replace S:=Hd (S.out.call st);clear st)
 refine bT ?_;exact⟨rfl,S.out.step⟩
theorem X1o:Z0l 430 J L b .nilIface .nilIface:=by
 intro w hW s;refine Q0c (M:=Nix) hW.2.2 ?_;intro W S;go_enter func430,ntmps430;go_wp2_with fail
 refine bT ?_;exact⟨rfl,S.out.step⟩
theorem X5y{lp:Nat}{lo ro:Option (OA×Nat×Nat)}(hl:Z0l 430 J ((b,cc lv rv sb nb cb al (.slice pa np pc) il sp,.t 418)::L0) b lv (lstV lo))(hr:Z0l 430 J ((b,cc lv rv sb nb cb al (.slice pa np pc) il sp,.t 418)::L0) b rv (lstV ro))(hsome:lo.isSome=true\/ro.isSome=true)
  (hlp:J lp=some (.cells (L1n nb2 Q1p).toArray 332 (0,0)))
  (h:Ac 426 #[pt b] J ((b,cc lv rv sb nb cb al (.slice pa np pc) il sp,.t 418)::L0) R (fun u K L' R'=>u=.tuple #[]/\Post (sn) K L' R')):Ac 427 #[pt b,pt lp] J ((b,cc lv rv sb nb cb al (.slice pa np pc) il sp,.t 418)::L0) R Post:=by
 intro M I w W S;have HS:=Hd (And.intro hl hr);have HL:=Hd h;have hrel:J.cell (ad lp 6) (.string Q1p):=⟨_,_,_,hlp,rfl,rfl⟩
 have hnm:=nm_isA;clear hl hr h hlp;simp only[cc]at S HS HL;rcases lo with _|⟨x,n,c⟩<;>rcases ro with _|⟨y,n2,c2⟩
 ·rcases hsome with h|h<;>cases h
 all_goals
  clear hsome
  simp only[lstV_s,lstV_n]at HS
  go_enter_defers func427,ntmps427
  go_wp2_with (refine wk ?_)
  refine(HS.out.1 _ (vw S gR) _).mono ?_
  rintro e W ⟨rfl,st⟩
  replace S:=Hd (S.out.call st)
  clear st
  go_wp2_with (refine wk ?_)
  refine(HS.out.2 _ (vw S gR) _).mono ?_
  rintro e W ⟨rfl,st⟩
  replace S:=Hd (S.out.call st)
  clear st
  go_wp2_with (first|go_at_call 501;refine(Z3t _ _ _ _).mono ?_;rintro e W2 ⟨rfl,rfl⟩|go_at_call 426;refine Q0a S HL.out ?_;rintro r5 K5 L5 R5 W' hle5 ⟨rfl,hpost⟩ S2;have hpost:=Hd hpost;clear S;have S:=S2;clear S2;simp only[List.append_nil]at S|refine wk ?_)
  all_goals
   (first|refine Q0z _ _ (Q0z _ _ ⟨_,results_tmp rfl _ _ _,?_⟩)|refine Q0z _ _ ⟨_,results_tmp rfl _ _ _,?_⟩)
   go_simp
   exact ap hle5 hpost.out S.out
theorem z1t{P:Prop}(h:P:=by
 go_wp2_with (first|go_at_call 433;refine Q0a S HC.out ?_;rintro r5 K5 L5 R5 W' hle5 ⟨rfl,hpost⟩ S2;have hpost:=Hd hpost;clear S;have S:=S2;clear S2;simp only[List.append_nil]at S|refine Z4o rfl rfl rfl rfl underlying373 Z0q ?_|refine wk ?_)
 exact e0a):P:=h
theorem z1u{P:Prop}(h:P:=by
 go_enter_defers func428,ntmps428;go_wp2_with (refine wk ?_)
 refine(HS.out.1 _ (vw S gR) _).mono ?_;rintro e W ⟨rfl,st⟩;replace S:=Hd (S.out.call st);clear st;go_wp2_with (refine wk ?_)
 refine(HS.out.2 _ (vw S gR) _).mono ?_;rintro e W ⟨rfl,st⟩;replace S:=Hd (S.out.call st);clear st;go_wp2_with (refine wk ?_)
 refine(Q1z r1 ml _ ((show J.map r1 ml from HM.out.1).at S.out.inw)).mono ?_;rintro e W2 ⟨rfl,rfl⟩;exact z1t):P:=h
theorem z1v{P:Prop}(h:P:=by
 go_wp2_with (first|go_at_call 426;refine Q0a S HL.out ?_;rintro r5 K5 L5 R5 W' hle5 ⟨rfl,hpost⟩ S2;have hpost:=Hd hpost;clear S;have S:=S2;clear S2;simp only[List.append_nil]at S|refine wk ?_)
 exact e0a):P:=h
theorem z1w{P:Prop}(h:P:=by
 go_wp2_with (refine wk ?_)
 refine(Q1z r2 mr _ ((show J.map r2 mr from HM.out.2).at S.out.inw)).mono ?_;rintro e W2 ⟨rfl,rfl⟩;exact z1t):P:=h
theorem z1x{P:Prop}(h:P:=by
 go_wp2_with (refine wk ?_)
 refine(Q1z r2 mr _ ((show J.map r2 mr from HM.out.2).at S.out.inw)).mono ?_;rintro e W2 ⟨rfl,rfl⟩;exact z1v):P:=h
theorem cmap_s{mp:Nat}{lo ro:Option Nat}{ml mr:KV}(hl:Z0l 432 J ((b,cc lv rv sb nb cb al (.slice pa np pc) il sp,.t 418)::L0) b lv (mapV lo))(hr:Z0l 432 J ((b,cc lv rv sb nb cb al (.slice pa np pc) il sp,.t 418)::L0) b rv (mapV ro))(hml:MapO J lo ml)(hmr:MapO J ro mr)(hsome:lo.isSome=true\/ro.isSome=true)
  (hmp:J mp=some (.cells (L1a nb2 Q6r).toArray 337 (0,0)))
  (h1:ml=[]->mr=[]->Ac 426 #[pt b] J ((b,cc lv rv sb nb cb al (.slice pa np pc) il sp,.t 418)::L0) R (fun u K L' R'=>u=.tuple #[]/\Post (sn) K L' R'))(h2:¬(ml=[]/\mr=[])->Ac 433 #[pt b,pt mp,mapV lo,mapV ro] J ((b,cc lv rv sb nb cb al (.slice pa np pc) il sp,.t 418)::L0) R (fun u K L' R'=>u=sn/\Post u K L' R')):Ac 428 #[pt b,pt mp] J ((b,cc lv rv sb nb cb al (.slice pa np pc) il sp,.t 418)::L0) R Post:=by
 intro M I w W S;have HS:=Hd (And.intro hl hr);have HM:=Hd (And.intro hml hmr);have hrel:J.cell (ad mp 8) (.string Q6r):=⟨_,_,_,hmp,rfl,rfl⟩
 have hnm:=Z9x;have el:∀{m:KV},((m.length:Int)==0)=true->m=[]:=fun h=>List.eq_nil_of_length_eq_zero b0b;have en:∀{m:KV},((m.length:Int)==0)=false->m≠[]:=fun h e=>by subst e;simp at h
 have EL:=Hd (And.intro @el @en);have HH:=Hd (And.intro h1 h2);clear hl hr hmp el en h1 h2;simp only[cc]at S HS HH;rcases lo with _|r1<;>rcases ro with _|r2
 ·rcases hsome with h|h<;>cases h
 ·clear hsome;obtain rfl:ml=[]:=hml;clear hmr;simp only[mapV_s,mapV_n]at HS HH;cases her:((mr.length:Int)==0)
  ·have HC:=Hd (HH.out.2 fun h=>EL.out.2 her h.2);go_enter_defers func428,ntmps428;go_wp2_with (refine wk ?_)
   refine(HS.out.1 _ (vw S gR) _).mono ?_;rintro e W ⟨rfl,st⟩;replace S:=Hd (S.out.call st);clear st;go_wp2_with (refine wk ?_)
   refine(HS.out.2 _ (vw S gR) _).mono ?_;rintro e W ⟨rfl,st⟩;replace S:=Hd (S.out.call st);clear st;exact z1w
  ·have HL:=Hd (HH.out.1 b0f (EL.out.1 her));go_enter_defers func428,ntmps428;go_wp2_with (refine wk ?_)
   refine(HS.out.1 _ (vw S gR) _).mono ?_;rintro e W ⟨rfl,st⟩;replace S:=Hd (S.out.call st);clear st;go_wp2_with (refine wk ?_)
   refine(HS.out.2 _ (vw S gR) _).mono ?_;rintro e W ⟨rfl,st⟩;replace S:=Hd (S.out.call st);clear st;exact z1x
 ·clear hsome;obtain rfl:mr=[]:=hmr;clear hml;simp only[mapV_s,mapV_n]at HS HH;cases hel:((ml.length:Int)==0)
  ·have HC:=Hd (HH.out.2 fun h=>EL.out.2 hel h.1);exact z1u
  ·have HL:=Hd (HH.out.1 (EL.out.1 hel) b0f);go_enter_defers func428,ntmps428;go_wp2_with (refine wk ?_)
   refine(HS.out.1 _ (vw S gR) _).mono ?_;rintro e W ⟨rfl,st⟩;replace S:=Hd (S.out.call st);clear st;go_wp2_with (refine wk ?_)
   refine(HS.out.2 _ (vw S gR) _).mono ?_;rintro e W ⟨rfl,st⟩;replace S:=Hd (S.out.call st);clear st;go_wp2_with (refine wk ?_)
   refine(Q1z r1 ml _ ((show J.map r1 ml from HM.out.1).at S.out.inw)).mono ?_;rintro e W2 ⟨rfl,rfl⟩;exact z1v
 ·clear hsome hml hmr;simp only[mapV_s]at HS HH;by_cases hb:((ml.length:Int)==0)=true/\((mr.length:Int)==0)=true
  ·obtain⟨hel,her⟩:=hb;have HL:=Hd (HH.out.1 (EL.out.1 hel) (EL.out.1 her));go_enter_defers func428,ntmps428;go_wp2_with (refine wk ?_)
   refine(HS.out.1 _ (vw S gR) _).mono ?_;rintro e W ⟨rfl,st⟩;replace S:=Hd (S.out.call st);clear st;go_wp2_with (refine wk ?_)
   refine(HS.out.2 _ (vw S gR) _).mono ?_;rintro e W ⟨rfl,st⟩;replace S:=Hd (S.out.call st);clear st;go_wp2_with (refine wk ?_)
   refine(Q1z r1 ml _ ((show J.map r1 ml from HM.out.1).at S.out.inw)).mono ?_;rintro e W2 ⟨rfl,rfl⟩;exact z1x
  ·have HC:=Hd (HH.out.2 fun h=>hb ⟨by rw[h.1];rfl,by rw[h.2];rfl⟩);cases hel:((ml.length:Int)==0);rotate_left
   ·have her:((mr.length:Int)==0)=false:=by
     cases h:((mr.length:Int)==0)
     ·rfl
     ·exact absurd ⟨hel,h⟩ hb
    clear hb;go_enter_defers func428,ntmps428;go_wp2_with (refine wk ?_)
    refine(HS.out.1 _ (vw S gR) _).mono ?_;rintro e W ⟨rfl,st⟩;replace S:=Hd (S.out.call st);clear st;go_wp2_with (refine wk ?_)
    refine(HS.out.2 _ (vw S gR) _).mono ?_;rintro e W ⟨rfl,st⟩;replace S:=Hd (S.out.call st);clear st;go_wp2_with (refine wk ?_)
    refine(Q1z r1 ml _ ((show J.map r1 ml from HM.out.1).at S.out.inw)).mono ?_;rintro e W2 ⟨rfl,rfl⟩;exact z1w
   ·clear hb;exact z1u
end
end Go.Proofs.YtbmklgemmjgjfaaGreat
