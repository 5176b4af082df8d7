/- Part 32: Vci, Vcz. -/
import Derived.Test.YtbmklgemmjgjfaaGreatT27
import Derived.Test.YtbmklgemmjgjfaaGreatT30
namespace Go.Proofs.YtbmklgemmjgjfaaGreat
open List (cons_append nil_append)
open Go.RowKit Go.Maps Tryz
set_option linter.unusedVariables false
set_option linter.unusedSimpArgs false
set_option maxRecDepth 100000
set_option maxHeartbeats 16000000
variable{b:Nat}{VB:List Blk}{J:Gh}
section
theorem Z9b(o:Option Value)(b:Nat):(vif o b).oneCell'=true:=by cases o<;>rfl
inductive OIs(J:Gh)(VB:List Blk):Option Value->Option Tr->Nat->Prop
 |none (b:Nat):OIs J VB none none b
 |some (v:Value) (t:Tr) (b:Nat) (h:Q0r J v t) (hv:Q2n J VB b v) (hn:Q1i t=true):OIs J VB (some v) (some t) b
theorem OIs.mono{K:Gh}{v:Option Value}{t:Option Tr}(h:OIs J VB v t b)(l:J.le K):OIs K VB v t b:=by
 cases h with
 |none=>exact .none b
 |some v t _ h hv hn=>exact .some v t b (h.mono l) (hv.mono l) hn
def alO(lo ro:Option Tr):Prop:=∀x y,lo=some x->ro=some y->Q2d x y=true
def X2z(lv rv:Value)(b sb nb cb al rm md aq N:Nat)(sp:OA)(s:C3)(p:List PE)(bs:List Nat)(R M A:Bool->List PE->Prop)(c:Bool->Nat)(VB:List Blk)(u:Value)(K:Gh)(L':List Blk)(R':List Rw):Prop:=
 u=sn/\∃s' il n' sp' PB' PR' SL SR pa pc,n'<=N/\Q3b sp sp'/\Pool 418 673 415 14 n' sp' PB' PR'/\S3 K rm md aq s' SL SR/\Q3e s p (R il) (M il) (A il) (c il) s'/\L'=(b,cc lv rv sb nb cb al (.slice pa p.length pc) il sp',.t 418)::(PB'++(SL++VB))/\R'=pathRw pa p.length pc bs::(PR'++SR)
def CAll(z:Nat):Prop:=∀(J:Gh) (vl vr:Option Value) (lo ro:Option Tr) (lb rb:Nat) (VB:List Blk),OIs J VB vl lo lb->OIs J VB vr ro rb->(vl.isSome=true\/vr.isSome=true)->alO lo ro->osz lo+osz ro<=z->
 ∀(N D b sb nb cb al rm md aq n:Nat) (sp:OA) (PB SL:List Blk) (PR SR:List Rw) (s:C3) (p:List PE) (bs:List Nat) (pa:OA) (pc:Nat),osz lo+osz ro<=N->n<=N/\N<2 ^ 30->Q2c J sb->Nm J nb nmDe->(∀(i:Nat) u,((L1o rm md aq):List Value)[i]?=some u->J.cell (ad cb (0+i)) u)->Pool 418 673 415 14 n sp PB PR->S3 J rm md aq s SL SR->s.ok->All2 (Nm J) bs p->p.length+osz lo+osz ro<=D->s.lt (2 ^ 30 -2*(osz lo+osz ro)*D)->
 Ac 212 #[pt b,.nilFunc] J ((b,cc (vif vl lb) (vif vr rb) sb nb cb al (.slice pa p.length pc) false sp,.t 418)::(PB++(SL++VB))) (pathRw pa p.length pc bs::(PR++SR)) (X2z (vif vl lb) (vif vr rb) b sb nb cb al rm md aq N sp s p bs (fun _=>ARem lo ro) (fun _=>AMod lo ro) (fun _=>ARem ro lo) (fun _=>2*(osz lo+osz ro)*D -D) VB)
theorem citem_s{z N D n mp mo sb nb nb2 cb al rm md aq pc lb rb:Nat}{sp pa:OA}{lv rv:Value}{vl vr:Option Value}{lo ro:Option Tr}{PB SL:List Blk}{PR SR:List Rw}{s:C3}{p:List PE}{bs:List Nat}{k:BA}(IH:CAll z)(hlv:lv.oneCell'=true)(hrv:rv.oneCell'=true)(ho1:OIs J VB vl lo lb)(ho2:OIs J VB vr ro rb)(hsome:vl.isSome=true\/vr.isSome=true)(hal:alO lo ro)(hz:osz lo+osz ro<=z)(hN:osz lo+osz ro+1<=N)(hnN:n<=N/\N<2 ^ 30)
  (hs:Q2c J sb)(hnm:Nm J nb2 nmDe)(hcb:∀(i:Nat) u,((L1o rm md aq):List Value)[i]?=some u->J.cell (ad cb (0+i)) u)(hmp:J mp=some (.cells (L1a nb2 Q6r).toArray 337 (0,0)))(hp:Pool 418 673 415 14 n sp PB PR)(hF:S3 J rm md aq s SL SR)(hok:s.ok)(hpp:All2 (Nm J) bs p)(hD:p.length+1+osz lo+osz ro<=D)(hD2:D<2 ^ 30)(hc:s.lt (2 ^ 30 -2*(osz lo+osz ro)*D))(hk:k.size<=maxLen):
  Ac 438 #[pt b,pt mp,.map (some mo),.string k,vif vl lb,vif vr rb] J ((b,cc lv rv sb nb cb al (.slice pa p.length pc) false sp,.t 418)::(PB++(SL++VB))) (pathRw pa p.length pc bs::(PR++SR))
   fun u K L' R'=>u=sn/\∃s' n' sp' PB' PR' SL' SR' pa' pc',n'<=N/\Q3b sp sp'/\Pool 418 673 415 14 n' sp' PB' PR'/\S3 K rm md aq s' SL' SR'/\Q3e s p (fun r=>∃x,r=k::x/\ARem lo ro x) (fun r=>∃x,r=k::x/\AMod lo ro x) (fun r=>∃x,r=k::x/\ARem ro lo x) (2*(osz lo+osz ro)*D) s'/\L'=(b,cc lv rv sb nb cb al (.slice pa' p.length pc') false sp',.t 418)::(PB'++(SL'++VB))/\R'=pathRw pa' p.length pc' bs::(PR'++SR'):=by
 intro M I w W S;have hFF:∀(i:Nat) u,((L1b nb2):List Value)[i]?=some u->J.cell (ad mp (2+i)) u:=fun i u hu=>by
  refine⟨_,_,_,hmp,rfl,?_⟩;match i,hu with
  |0,h|1,h|2,h|3,h|4,h|5,h=>simpa using h
  |i+6,h=>simp at h
 have hc0:J.cell (ad mp 0) (sn):=⟨_,_,_,hmp,rfl,rfl⟩
 have HC0:=Hd (And.intro hc0 hFF);have HU:=Hd (nd6 ho1 ho2 hsome hal hz (And.intro hN hnN));have HS:=Hd (nd4 IH hs hnm hcb);have HF:=Hd (nd4 hp hF hok hpp);have HB:=Hd (nd4 hD hD2 hc hk);have HL:=Hd (And.intro hlv hrv);clear IH ho1 ho2 hsome hal hz hN hnN hs hnm hcb hmp hp hF hok hpp hD hD2 hc hk hc0 hFF hlv hrv;simp only[cc]at S;go_enter func438,ntmps438;go_wp2_with (first|refine wB ?_;clear S;intro kb W S0;obtain⟨K1,hle1,hk1,S⟩:=S0.out.freeze;clear S0;replace S:=Hd S;have HC:=Hd (And.intro (HC0.out.1.mono hle1) fun i u h=>(HC0.out.2 i u h).mono hle1);have hkc:K1.cell (ad kb 0) (.string k):=⟨_,_,_,hk1,rfl,rfl⟩|go_at_call 235;refine got S (Q3k _ mp k HC.out.1) ?_;clear S;intro W S|refine wk ?_|refine X9l (sub:=(L1b nb2)) rf rfl rfl rfl HC.out.2 S.out.inw ?_|refine Ws ?_;clear S;intro W S|refine wA ?_;clear S;(first|(fail_if_success revert zr);intro zr W S|(fail_if_success revert zf);intro zf W S|intro zp W S))
 refine Rg S [(b,[lv,rv,pt sb,pt nb,pn,pn,pn,pn,.bool false,.slice pa p.length pc,pt cb,.bool false,.pointer sp,.iface 340 (pt al)],.t 418),(zp,L1m kb,.t 358),(zr,L1b nb2,.t 114)] [] [7] [0,1,2,3,4,5,6] 2 fun W S=>?_;refine tk1 ?_;refine Sh [8] 0 7 fun KK hKK=>?_;go_simp;refine Q0a S (cprep_s (b:=b) (sb:=sb) (nb:=nb) (cb:=cb) (cb2:=cb) (al:=al) (lv:=lv) (rv:=rv) (nb2:=nb2) (x:=kb) (np:=p.length) (pa:=pa) (pc:=pc) (bs:=bs) HL.out.1 HL.out.2 HF.out.1 b1z (by have:=HB.out.1;have:=HB.out.2.1;omega)) ?_;rintro r K L1 R1 W' hle ⟨hKJ,b2,P,PB1,A1,c1,PR1,rfl,hq1,hq2,rfl,rfl⟩ S2;have hJK:=hKJ.symm;subst hJK;clear S;have S:=S2;clear S2;replace S:=sa S;have HQ:=Hd (And.intro hq1 hq2);clear hq1 hq2;refine hKK.out _ _ ?_;clear hKK KK;refine tkf ?_;refine En ?_;have hcall:=HS.out.1 K1 vl vr lo ro lb rb VB (HU.out.1.mono hle1) (HU.out.2.1.mono hle1) HU.out.2.2.1 HU.out.2.2.2.1 HU.out.2.2.2.2.1 (N -1) D b2 sb nb2 cb al rm md aq (n -1) (some (ad P 0)) PB1 SL PR1 SR s (p++[k]) (bs++[kb]) A1 c1 (by have:=HU.out.2.2.2.2.2.1;omega) b1z (HS.out.2.1.mono hle1) (HS.out.2.2.1.mono hle1) (fun i u h=>(HS.out.2.2.2 i u h).mono hle1) HQ.out.2 (HF.out.2.1.mono hle1) HF.out.2.2.1 (Q1e (HF.out.2.2.2.imp fun _ _ h=>h.mono hle1) ⟨hkc,HB.out.2.2.2⟩) b2h HB.out.2.2.1;simp only[cc,List.length_append,List.length_cons,List.length_nil,Nat.zero_add]at hcall;go_wp2_with (first|refine wk ?_|refine Q7u (v:=vif vl lb) S rfl rfl rfl rfl (Z9b _ _) ?_;clear S;intro W S|refine Q7u (v:=vif vr rb) S rfl rfl rfl rfl (Z9b _ _) ?_;clear S;intro W S|refine Ws ?_;clear S;intro W S)
 refine Q0a S hcall ?_;clear hcall;rintro r K2 L' R2 W' hle2 ⟨rfl,s1,il2,n2,sp2,PB2,PR2,SL2,SR2,pa2,pc2,hn2,hsp2,hp2,hF2,hG2,rfl,rfl⟩ S2;obtain rfl:sp2=some (ad P 0):=by cases hsp2;rfl
 have HP:=Hd (nd5 hn2 hp2 hF2 hG2 hle2);clear S hn2 hsp2 hp2 hF2 hG2;have S:=S2;clear S2;replace S:=sa S;simp only[cc,List.length_append,List.length_cons,List.length_nil,Nat.zero_add]at S;go_wp2_with (first|refine Z4o rfl rfl rfl rfl underlying373 Z0q ?_|refine wk ?_)
 refine Q0a S (cfin_s (b:=b) (b2:=b2) (P:=P) (x:=kb) (sb:=sb) (nb:=nb) (cb:=cb) (al:=al) (lv:=lv) (rv:=rv) (q0:=vif vl lb) (q1:=vif vr rb) (q2:=pt sb) (q3:=pt nb2) (q4:=pn) (q5:=pn) (q6:=pn) (q7:=pn) (q8:=.bool false) (q10:=pt cb) (q11:=.bool il2) (q12:=pt P) (q13:=.iface 340 (pt al)) (np:=p.length) (pa:=pa2) (pc:=pc2) (A0:=pa) (n0:=p.length) (c0:=pc) (bs:=bs) HP.out.2.1 (by have:=HU.out.2.2.2.2.2.2;have:=HP.out.1;omega) (by have:=HB.out.1;have:=HB.out.2.1;omega) HF.out.2.2.2.length) ?_;rintro r K L5 R5 W' hle ⟨hKJ,PB3,PR3,hp3,rfl,rfl⟩ S2;subst hKJ;clear S;have S:=S2;clear S2;replace S:=sa S;go_wp2_with (refine wk ?_)
 go_ret;refine ap (gT hle1 HP.out.2.2.2.2) ⟨rfl,_,_,_,PB3,PR3,SL2,SR2,pa2,pc2,(by have:=HP.out.1;have:=HU.out.2.2.2.2.2.1;omega),HQ.out.1,hp3,HP.out.2.2.1,HP.out.2.2.2.1.under.conv (fun r=>⟨Iff.rfl,Iff.rfl,Iff.rfl⟩) (Nat.sub_le _ _),rfl,rfl⟩ ?_;exact(show St _ _ _ _ _ ((b,[lv,rv,pt sb,pt nb,pn,pn,pn,pn,.bool false,.slice pa2 p.length pc2,pt cb,.bool false,pt P,.iface 340 (pt al)],.t 418)::(PB3++(SL2++VB))) (pathRw pa2 p.length pc2 bs::(PR3++SR2))from keep S)
end
section
def cL(y1 y2 y3 y4 mo b mp:Nat):List Blk:=[(y1,[pt b],.t 415),(y2,[pt mp],.t 109),(y3,[sn],.t 373),(y4,[.map (some mo)],.t 283)]
variable{k:BA}{bs:List Nat}{p:List PE}{s:C3}{PR SR:List Rw}{PB SL:List Blk}{lv rv:Value}{sp pa:OA}{N n mp mo y1 y2 y3 y4 sb nb cb al rm md aq pc z D nb2:Nat}
theorem cclo_s{n lb rb:Nat}{vl vr:Option Value}{A1 A2 A3:List PE->Prop}{c:Nat}
  (hI:Ac 438 #[pt b,pt mp,.map (some mo),.string k,vif vl lb,vif vr rb] J ((b,cc lv rv sb nb cb al (.slice pa p.length pc) false sp,.t 418)::(PB++(SL++(vblk vl lb++vblk vr rb)))) (pathRw pa p.length pc bs::(PR++SR))
   fun u K L' R'=>u=sn/\∃s' n' sp' PB' PR' SL' SR' pa' pc',n'<=N/\Q3b sp sp'/\Pool 418 673 415 14 n' sp' PB' PR'/\S3 K rm md aq s' SL' SR'/\Q3e s p A1 A2 A3 c s'/\L'=(b,cc lv rv sb nb cb al (.slice pa' p.length pc') false sp',.t 418)::(PB'++(SL'++(vblk vl lb++vblk vr rb)))/\R'=pathRw pa' p.length pc' bs::(PR'++SR')):
  Ac 437 (#[.string k,vif vl lb,vif vr rb]++#[pt y3,pt y1,pt y2,pt y4]) J (vblk vl lb++(vblk vr rb++(cL y1 y2 y3 y4 mo b mp++((b,cc lv rv sb nb cb al (.slice pa p.length pc) false sp,.t 418)::(PB++SL))))) (pathRw pa p.length pc bs::(PR++SR))
   fun u K L' R'=>u=.bool true/\∃s' n' sp' PB' PR' SL' SR' pa' pc',n'<=N/\Q3b sp sp'/\Pool 418 673 415 14 n' sp' PB' PR'/\S3 K rm md aq s' SL' SR'/\Q3e s p A1 A2 A3 c s'/\L'=vblk vl lb++(vblk vr rb++(cL y1 y2 y3 y4 mo b mp++((b,cc lv rv sb nb cb al (.slice pa' p.length pc') false sp',.t 418)::(PB'++SL'))))/\R'=pathRw pa' p.length pc' bs::(PR'++SR'):=by
 intro M I w W S;have HI:=Hd hI;clear hI;simp only[cL,cc,cons_append,nil_append]at S HI;go_enter func437,ntmps437;go_wp2_with fail
 refine Rg S [(y1,[pt b],.t 415),(y2,[pt mp],.t 109),(y3,[sn],.t 373),(y4,[.map (some mo)],.t 283)] [] [9] [0,1,2,3,4,5,6] 3 fun W S=>?_;refine Zw [] 2 7 ?_;intro KK hKK;go_simp;refine Q0a S HI.out ?_;rintro r K2 L' R2 W' hle2 ⟨rfl,s1,n2,sp2,PB2,PR2,SL2,SR2,pa2,pc2,hn2,hsp2,hp2,hF2,hG2,rfl,rfl⟩ S2;have HP:=Hd (nd6 hn2 hsp2 hp2 hF2 hG2 hle2);clear S hn2 hsp2 hp2 hF2 hG2;have S:=S2;clear S2;replace S:=sa S;(try simp only[cc]at S);refine Yw [] 1 8 ?_;intro KK hKK;refine Q4b rfl rfl rfl underlying373 Z0q ?_;refine Hy ?_;refine Cl 9 fun KK hKK=>?_;refine Q0j (v:=sn) S rfl rfl rfl rfl ?_;clear S;intro W S;refine hKK.out _ _ (NoPanic.normal ?_);clear hKK KK;go_wp2_with (refine wk ?_)
 go_ret;refine ap HP.out.2.2.2.2.2 ⟨rfl,s1,n2,sp2,PB2,PR2,SL2,SR2,pa2,pc2,HP.out.1,HP.out.2.1,HP.out.2.2.1,HP.out.2.2.2.1,HP.out.2.2.2.2.1,rfl,rfl⟩ ?_;exact(show St _ _ _ _ _ (vblk vl lb++(vblk vr rb++((y1,[pt b],.t 415)::(y2,[pt mp],.t 109)::(y3,[sn],.t 373)::(y4,[.map (some mo)],.t 283)::(b,[lv,rv,pt sb,pt nb,pn,pn,pn,pn,.bool false,.slice pa2 p.length pc2,pt cb,.bool false,.pointer sp2,.iface 340 (pt al)],.t 418)::(PB2++SL2)))) (pathRw pa2 p.length pc2 bs::(PR2++SR2))from keep S)
inductive MIs(J:Gh):Option Nat->KV->Option Tr->Prop
 |none:MIs J none [] none
 |some (r:Nat) (vs:KV) (ts:KT) (hm:J.map r vs) (hk:vs.map (·.1)=ts.map (·.1)) (h:∀(i:Nat) v t,vs[i]?=some v->ts[i]?=some t->Q0r J v.2 t.2):MIs J (some r) vs (some (.map ts))
variable{t lo ro:Option Tr}{m ml mr:KV}{o ol or':Option Nat}
theorem Z4q(h:MIs J o m t):MapO J o m:=by
 cases h with
 |none=>rfl
 |some r vs ts hm hk h=>exact hm
theorem Q6a(h:MIs J o m t)(k:BA):(findK m k=none/\findK (fldO t) k=none)\/∃v u,findK m k=some v/\findK (fldO t) k=some u/\Q0r J v u:=by
 cases h with
 |none=>exact .inl ⟨rfl,rfl⟩
 |some r vs ts hm hk h=>
  cases hf:findK m k with
  |none=>
   left;refine⟨rfl,?_⟩;have:=Z2w hk k;rw[hf]at this;simpa[fldO]using this
  |some v=>
   obtain⟨i,u,h1,h2,h3⟩:=Q3p hk hf;exact .inr ⟨v,u,rfl,h3,h i _ _ h1 h2⟩
def noNO(o:Option Tr):Prop:=∀t,o=some t->Q1i t=true
variable{u:Tr}
theorem X1n{m:KT}(h:Q7f m=true)(hf:findK m k=some u):Q1i u=true:=by
 have:=Q0o hf;clear hf;induction m with
 |nil=>cases this
 |cons p m ih=>
  obtain⟨l,t⟩:=p;simp only[Q7f,Bool.and_eq_true]at h;rcases List.mem_cons.1 this with e|e
  ·cases e;exact h.1
  ·exact ih h.2 e
theorem noNO_field{o:Option Tr}(h:noNO o)(hf:findK (fldO o) k=some u):Q1i u=true:=by
 match o,h,hf with
 |some (.map m),h,hf=>exact X1n (show Q7f m=true from h _ rfl) hf
theorem X1s(h:alO lo ro)(k:BA):alO (findK (fldO lo) k) (findK (fldO ro) k):=by
 intro x y hx hy;match lo,ro,h,hx,hy with
 |some (.map ma),some (.map mb),h,hx,hy=>exact Q5a (show Q7l ma mb=true from h _ _ rfl rfl) hx hy
theorem Z2q{K:Gh}(h:MIs J o m t)(hn:noNO t)(l:J.le K)(k:BA)(b:Nat)(hv:∀x∈vblk (findK m k) b,x∈VB):OIs K VB (findK m k) (findK (fldO t) k) b:=by
 rcases Q6a h k with⟨h1,h2⟩|⟨v,u,h1,h2,h3⟩
 ·rw[h1,h2];exact .none b
 ·rw[h1]at hv;rw[h1,h2];exact .some v u b (h3.mono l) (.inr ⟨430,hv _ (List.mem_cons_self ..)⟩) (noNO_field hn h2)
def cInv(y1 y2 y3 y4 mo b mp:Nat)(lv rv:Value)(sb nb cb al rm md aq N D:Nat)(sp:OA)(s:C3)(p:List PE)(bs:List Nat)(lo ro:Option Tr)(left:BA->Bool)(K:Gh)(L':List Blk)(R':List Rw):Prop:=
 ∃s' n' sp' PB' PR' SL' SR' pa' pc' c,n'<=N/\Q3b sp sp'/\Pool 418 673 415 14 n' sp' PB' PR'/\S3 K rm md aq s' SL' SR'/\Q3e s p (X2a (fun z=>!left z) lo ro ARem) (X2a (fun z=>!left z) lo ro AMod) (X2a (fun z=>!left z) lo ro fun l r=>ARem r l) c s'/\c+wt2 D left lo ro<=2*(Q0p (fldO lo)+Q0p (fldO ro))*D/\
  L'=cL y1 y2 y3 y4 mo b mp++((b,cc lv rv sb nb cb al (.slice pa' p.length pc') false sp',.t 418)::(PB'++SL'))/\R'=pathRw pa' p.length pc' bs::(PR'++SR')
theorem cstep_s{pc:Nat}{pa:OA}(IH:CAll z)(hlv:lv.oneCell'=true)(hrv:rv.oneCell'=true)(h1:MIs J ol ml lo)(h2:MIs J or' mr ro)(hn1:noNO lo)(hn2:noNO ro)(hal:alO lo ro)(hz:Q0p (fldO lo)+Q0p (fldO ro)<=z)(hN:Q0p (fldO lo)+Q0p (fldO ro)+1<=N)(hnN:n<=N/\N<2 ^ 30)(hs:Q2c J sb)(hnm:Nm J nb2 nmDe)(hcb:∀(i:Nat) u,((L1o rm md aq):List Value)[i]?=some u->J.cell (ad cb (0+i)) u)(hmp:J mp=some (.cells (L1a nb2 Q6r).toArray 337 (0,0)))(hp:Pool 418 673 415 14 n sp PB PR)(hF:S3 J rm md aq s SL SR)(hok:s.ok)(hpp:All2 (Nm J) bs p)(hD:p.length+1+(Q0p (fldO lo)+Q0p (fldO ro))<=D)(hD2:D<2 ^ 30)(hc:s.lt (2 ^ 30 -2*(Q0p (fldO lo)+Q0p (fldO ro))*D)):Z3h 437 #[pt y3,pt y1,pt y2,pt y4] J ml mr (cInv y1 y2 y3 y4 mo b mp lv rv sb nb cb al rm md aq N D sp s p bs lo ro):=by
 rintro left K L R k lb rb hle ⟨s',n',sp',PB',PR',SL',SR',pa',pc',c,g1,g2,g3,g4,g5,g6,rfl,rfl⟩ hks hls hor;have hw:=X8l (D:=D) hls lo ro;have e1:=Z1s (m:=fldO lo) k;have e2:=Z1s (m:=fldO ro) k;have hlt:s'.lt (2 ^ 30 -2*(osz (findK (fldO lo) k)+osz (findK (fldO ro) k))*D):=by
  have:=hc.1;have:=hc.2.1;have:=hc.2.2;exact C3.lt.add g5 ⟨by omega,by omega,by omega⟩
 refine(cclo_s (n:=0) (citem_s (VB:=vblk (findK ml k) lb++vblk (findK mr k) rb) IH hlv hrv (Z2q h1 hn1 hle k lb fun x hx=>List.mem_append_left _ hx) (Z2q h2 hn2 hle k rb fun x hx=>List.mem_append_right _ hx) hor (X1s hal k) om om ⟨g1,hnN.2⟩ (hs.mono hle) (hnm.mono hle) (fun i u h=>(hcb i u h).mono hle) (hle _ _ hmp) g3 g4 g5.ok (hpp.imp fun _ _ h=>h.mono hle) om hD2 hlt hks)).mono ?_;rintro u K2 L2 R2 hle2 ⟨hu,s2,n2,sp2,PB2,PR2,SL2,SR2,pa2,pc2,q1,q2,q3,q4,q5,rfl,rfl⟩;exact⟨hu,_,rfl,s2,n2,sp2,PB2,PR2,SL2,SR2,pa2,pc2,_,q1,g2.trans q2,q3,q4,(g5.trans q5).conv (fun r=>⟨Z3r r,Z3r r,Z3r r⟩) (Nat.le_refl _),by omega,rfl,rfl⟩
theorem cinv0(IH:CAll z)(hlv:lv.oneCell'=true)(hrv:rv.oneCell'=true)(h1:MIs J ol ml lo)(h2:MIs J or' mr ro)(hn1:noNO lo)(hn2:noNO ro)(hal:alO lo ro)(hz:Q0p (fldO lo)+Q0p (fldO ro)<=z)(hN:Q0p (fldO lo)+Q0p (fldO ro)+1<=N)(hnN:n<=N/\N<2 ^ 30)(hs:Q2c J sb)(hnm:Nm J nb2 nmDe)(hcb:∀(i:Nat) u,((L1o rm md aq):List Value)[i]?=some u->J.cell (ad cb (0+i)) u)(hmp:J mp=some (.cells (L1a nb2 Q6r).toArray 337 (0,0)))(hp:Pool 418 673 415 14 n sp PB PR)(hF:S3 J rm md aq s SL SR)(hok:s.ok)(hpp:All2 (Nm J) bs p)(hD:p.length+1+(Q0p (fldO lo)+Q0p (fldO ro))<=D)(hD2:D<2 ^ 30)(hc:s.lt (2 ^ 30 -2*(Q0p (fldO lo)+Q0p (fldO ro))*D)):cInv y1 y2 y3 y4 mo b mp lv rv sb nb cb al rm md aq N D sp s p bs lo ro (zAll ml mr) J (cL y1 y2 y3 y4 mo b mp++((b,cc lv rv sb nb cb al (.slice pa p.length pc) false sp,.t 418)::(PB++SL))) (pathRw pa p.length pc bs::(PR++SR)):=by
 have hz:∀k,(!zAll ml mr k)=true->findK (fldO lo) k=none/\findK (fldO ro) k=none:=by
  intro k hk;simp only[zAll,Bool.not_or,Bool.and_eq_true,Bool.not_eq_true']at hk;constructor
  ·rcases Q6a h1 k with⟨_,h⟩|⟨v,u,h,_,_⟩
   ·exact h
   ·rw[h]at hk;simp at hk
  ·rcases Q6a h2 k with⟨_,h⟩|⟨v,u,h,_,_⟩
   ·exact h
   ·rw[h]at hk;simp at hk
 refine⟨s,n,sp,PB,PR,SL,SR,pa,pc,0,hnN.1,.same,hp,hF,(Q3e.refl hok).conv (fun r=>⟨⟨False.elim,?_⟩,⟨False.elim,?_⟩,⟨False.elim,?_⟩⟩) (Nat.le_refl _),by have:=wt2_le D (zAll ml mr) lo ro;omega,rfl,rfl⟩
 ·rintro⟨k,x,_,hk,h⟩;rw[(hz k hk).1,(hz k hk).2]at h;exact X3n _ h
 ·rintro⟨k,x,_,hk,h⟩;rw[(hz k hk).1,(hz k hk).2]at h;exact aMod_none _ h
 ·rintro⟨k,x,_,hk,h⟩;simp only[(hz k hk).1,(hz k hk).2]at h;exact X3n _ h
theorem X7f(h:MIs J o m t)(s:BA)(v:Value)(hf:findK m s=some v):∃k,AK v k:=by
 rcases Q6a h s with⟨h1,_⟩|⟨w,u,h1,_,h3⟩
 ·rw[h1]at hf;cases hf
 ·rw[h1]at hf;cases hf;exact⟨_,h3.ak⟩
theorem X0b(IH:CAll z)(hlv:lv.oneCell'=true)(hrv:rv.oneCell'=true)(h1:MIs J ol ml lo)(h2:MIs J or' mr ro)(hn1:noNO lo)(hn2:noNO ro)(hal:alO lo ro)(hz:Q0p (fldO lo)+Q0p (fldO ro)<=z)(hN:Q0p (fldO lo)+Q0p (fldO ro)+1<=N)(hnN:n<=N/\N<2 ^ 30)(hs:Q2c J sb)(hnm:Nm J nb2 nmDe)(hcb:∀(i:Nat) u,((L1o rm md aq):List Value)[i]?=some u->J.cell (ad cb (0+i)) u)(hmp:J mp=some (.cells (L1a nb2 Q6r).toArray 337 (0,0)))(hp:Pool 418 673 415 14 n sp PB PR)(hF:S3 J rm md aq s SL SR)(hok:s.ok)(hpp:All2 (Nm J) bs p)(hD:p.length+1+(Q0p (fldO lo)+Q0p (fldO ro))<=D)(hD2:D<2 ^ 30)(hc:s.lt (2 ^ 30 -2*(Q0p (fldO lo)+Q0p (fldO ro))*D))(hsome:ol.isSome=true\/or'.isSome=true):
  Ac 433 #[pt b,pt mp,mapV ol,mapV or'] J ((b,cc lv rv sb nb cb al (.slice pa p.length pc) false sp,.t 418)::(PB++(SL++VB))) (pathRw pa p.length pc bs::(PR++SR))
   fun u K L' R'=>u=sn/\∃s' n' sp' PB' PR' SL' SR' pa' pc',n'<=N/\Q3b sp sp'/\Pool 418 673 415 14 n' sp' PB' PR'/\S3 K rm md aq s' SL' SR'/\Q3e s p (fun r=>ARem lo ro r/\r≠[]) (X2a (fun _=>!false) lo ro AMod) (fun r=>ARem ro lo r/\r≠[]) (2*(Q0p (fldO lo)+Q0p (fldO ro))*D) s'/\L'=(b,cc lv rv sb nb cb al (.slice pa' p.length pc') false sp',.t 418)::(PB'++(SL'++VB))/\R'=pathRw pa' p.length pc' bs::(PR'++SR'):=by
 intro M I w W S;have HC:=fun y1 y2 y3 y4 mo=>X9g (al:=al) (Go.MuLone.run_callFunc_enter func437 kr rfl) (cstep_s (y1:=y1) (y2:=y2) (y3:=y3) (y4:=y4) (mo:=mo) (b:=b) (mp:=mp) (nb:=nb) (al:=al) (pa:=pa) (pc:=pc) IH hlv hrv h1 h2 hn1 hn2 hal hz hN hnN hs hnm hcb hmp hp hF hok hpp hD hD2 hc) (Z4q h1) (Z4q h2) (X7f h1) (X7f h2) (cinv0 (y1:=y1) (y2:=y2) (y3:=y3) (y4:=y4) (mo:=mo) (b:=b) (mp:=mp) (nb:=nb) (al:=al) (pa:=pa) (pc:=pc) IH hlv hrv h1 h2 hn1 hn2 hal hz hN hnN hs hnm hcb hmp hp hF hok hpp hD hD2 hc) hsome;have HC:=Hd HC;clear hsome hc hD2 hD hpp hok hF hp hmp hcb hnm hs hnN hN hz hal hn2 hn1 h2 h1 hrv hlv IH;simp only[cc]at S;go_enter func433,ntmps433;go_wp2_with (first|refine wk ?_|refine Ws ?_;clear S;intro W S|refine X1a S rfl rfl ?_;clear S;intro mo W S|refine wA ?_;clear S;(first|(fail_if_success revert y3);intro y3 W S|intro y4 W S)|refine wB ?_;clear S;(first|(fail_if_success revert y1);intro y1 W S|intro y2 W S))
 have hcall:=HC.out y1 y2 y3 y4 mo;simp only[cL,cc,cons_append,nil_append]at hcall;refine Q0a S hcall ?_;clear hcall;rintro r K2 L' R2 W' hle2 ⟨rfl,s1,n2,sp2,PB2,PR2,SL2,SR2,pa2,pc2,c,hn2,hsp2,hp2,hF2,hG2,hc2,rfl,rfl⟩ S2;have HP:=Hd (nd6 hn2 hsp2 hp2 hF2 hG2 (And.intro hc2 hle2));clear S hn2 hsp2 hp2 hF2 hG2 hc2;have S:=S2;clear S2;simp only[cL,cc,cons_append,nil_append,List.append_nil,List.append_assoc]at S;go_wp2_with (first|refine wk ?_|refine Ws ?_;clear S;intro W S)
 refine bT ?_;refine ap HP.out.2.2.2.2.2.2 ⟨rfl,s1,n2,sp2,PB2,PR2,SL2,SR2,pa2,pc2,HP.out.1,HP.out.2.1,HP.out.2.2.1,HP.out.2.2.2.1,HP.out.2.2.2.2.1.conv (fun r=>⟨X1i lo ro r,Iff.rfl,X1i ro lo r⟩) (by have:=HP.out.2.2.2.2.2.1;omega),rfl,rfl⟩ ?_;exact(show St _ _ _ _ _ ((b,[lv,rv,pt sb,pt nb,pn,pn,pn,pn,.bool false,.slice pa2 p.length pc2,pt cb,.bool false,.pointer sp2,.iface 340 (pt al)],.t 418)::(PB2++(SL2++VB))) (pathRw pa2 p.length pc2 bs::(PR2++SR2))from keep S)
end
end Go.Proofs.YtbmklgemmjgjfaaGreat
