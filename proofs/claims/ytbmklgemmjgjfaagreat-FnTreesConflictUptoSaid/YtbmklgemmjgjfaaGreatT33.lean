/- Part 33: Mga, Vmi, Vmz, Nnu. -/
import Derived.Test.YtbmklgemmjgjfaaGreatT31
import Derived.Test.YtbmklgemmjgjfaaGreatT32
namespace Go.Proofs.YtbmklgemmjgjfaaGreat
open List (cons_append mem_of_getElem? nil_append pairwise_cons)
open Go.RowKit Go.Maps Tryz
set_option linter.unusedVariables false
set_option linter.unusedSimpArgs false
set_option maxRecDepth 100000
set_option maxHeartbeats 16000000
variable{J:Gh}{lo ro:Option Tr}{e:KV}
section
def Q9h(lo ro:Option Tr):Tr:=match lo,ro with
 |some a,some b=>Q0d a b
 |some a,none=>a
 |none,some b=>b
 |none,none=>.null
def Z1v(lo ro:Option Tr):KT:=match lo,ro with
 |some (.map ma),some (.map mb)=>Q1x ma ma mb
 |some (.map ma),_=>ma
 |_,some (.map mb)=>mb
 |_,_=>[]
def X6n(o:Option Tr):Prop:=o=none\/∃m,o=some (.map m)
variable{K:Gh}
theorem Q2b{o:Option Nat}{m:KV}{t:Option Tr}(h:MIs J o m t):X6n t/\Q0n (fldO t):=by
 cases h with
 |none=>exact⟨.inl rfl,List.Pairwise.nil⟩
 |some r vs ts hm hk h=>exact⟨.inr ⟨ts,rfl⟩,hm.sorted.keys hk⟩
def X4j:Option Tr->Option Tr->Option Tr
 |none,none=>none
 |x,y=>some (Q9h x y)
theorem pairO_some{x y:Option Tr}(h:x.isSome=true\/y.isSome=true):X4j x y=some (Q9h x y):=by
 cases x<;>cases y<;>first|rfl|simp at h
theorem Q8o(h1:X6n lo)(h2:X6n ro)(s1:Q0n (fldO lo))(s2:Q0n (fldO ro))(k:BA):findK (Z1v lo ro) k=X4j (findK (fldO lo) k) (findK (fldO ro) k):=by
 rcases h1 with rfl|⟨ma,rfl⟩<;>rcases h2 with rfl|⟨mb,rfl⟩
 ·rfl
 ·show findK mb k=X4j none (findK mb k);cases findK mb k<;>rfl
 ·show findK ma k=X4j (findK ma k) none;cases findK ma k<;>rfl
 ·show findK (Q1x ma ma mb) k=X4j (findK ma k) (findK mb k);rw[Q7p (show Q0n ma from s1) (show Q0n mb from s2)];cases findK ma k<;>cases findK mb k<;>rfl
theorem Z9r(h1:X6n lo)(h2:X6n ro)(s1:Q0n (fldO lo))(s2:Q0n (fldO ro)):Q0n (Z1v lo ro):=by
 rcases h1 with rfl|⟨ma,rfl⟩<;>rcases h2 with rfl|⟨mb,rfl⟩
 ·exact List.Pairwise.nil
 ·exact s2
 ·exact s1
 ·exact(Z0z ma ma mb s1 s2 ⟨#[]⟩).1
theorem mergeL_map(h1:X6n lo)(h2:X6n ro)(h:lo.isSome=true\/ro.isSome=true):Q9h lo ro=.map (Z1v lo ro):=by
 rcases h1 with rfl|⟨ma,rfl⟩<;>rcases h2 with rfl|⟨mb,rfl⟩
 ·simp at h
 ·rfl
 ·rfl
 ·simp[Q9h,Z1v,Q0d]
variable{k:BA}
theorem Q7q{α:Type}{l:List (BA×α)}(h:∀p∈l,klt k p.1=true):findK l k=none:=by
 cases hf:findK l k with
 |none=>rfl
 |some v=>
  have:=h _ (Q0o hf);rw[Q2r]at this;cases this
theorem Q7b{α β:Type}:∀{l:List (BA×α)} {m:List (BA×β)},Q0n l->Q0n m->(∀k,(findK l k).isSome=(findK m k).isSome)->l.map (·.1)=m.map (·.1)
 |[],[],_,_,_=>rfl
 |[],q::m,_,_,h=>by have:=h q.1;rw[Q0k,if_pos rfl]at this;simp[findK]at this
 |p::l,[],_,_,h=>by have:=h p.1;rw[Q0k,if_pos rfl]at this;simp[findK]at this
 |p::l,q::m,hl,hm,h=>by
  have tl:=(pairwise_cons.1 hl).1;have tm:=(pairwise_cons.1 hm).1;have e:p.1=q.1:=by
   by_cases hc:p.1=q.1
   ·exact hc
   ·rcases Q5r hc with hk|hk
    ·have:=h p.1;rw[Q0k,if_pos rfl,Q7q fun r hr=>?_]at this
     ·simp at this
     ·rcases List.mem_cons.1 hr with rfl|hr
      ·exact hk
      ·exact Q2g hk (tm r hr)
    ·have:=h q.1;rw[Q0k (p:=q),if_pos rfl,Q7q fun r hr=>?_]at this
     ·simp at this
     ·rcases List.mem_cons.1 hr with rfl|hr
      ·exact hk
      ·exact Q2g hk (tl r hr)
  rw[List.map_cons,List.map_cons,e,Q7b (pairwise_cons.1 hl).2 (pairwise_cons.1 hm).2 fun k=>?_];by_cases hk:p.1=k
  ·subst hk;rw[Q7q tl,Q7q (by rw[e];exact tm)];rfl
  ·have:=h k;rwa [Q0k,if_neg hk,Q0k,if_neg (by rw[<-e];exact hk)]at this
def Z9h(K:Gh)(left:BA->Bool)(mt:KT)(e:KV):Prop:=∀k,if left k=true then findK e k=none else match findK mt k with
 |none=>findK e k=none
 |some u=>∃v,findK e k=some v/\Q0r K v u
variable{mt:KT}{left:BA->Bool}
theorem Z9h.mono(h:Z9h J left mt e)(l:J.le K):Z9h K left mt e:=fun k=>by
 have:=h k;split
 ·next hl=>rwa [if_pos hl]at this
 ·next hl=>
  rw[if_neg hl]at this;cases hf:findK mt k with
  |none=>rw[hf]at this;exact this
  |some u=>
   rw[hf]at this;obtain⟨v,h1,h2⟩:=this;exact⟨v,h1,h2.mono l⟩
theorem Z9h.step{v:Value}{u:Tr}(h:Z9h K left mt e)(hs:Q0n e)(hk:findK mt k=some u)(hv:Q0r K v u):Z9h K (fun z=>left z&&!decide (z=k)) mt (insK e k v):=fun z=>by
 have:=h z;rw[Q4y k v z hs];by_cases hz:z=k
 ·subst hz;rw[if_neg b0f,hk,if_pos rfl];exact⟨v,rfl,hv⟩
 ·simp only[hz,decide_false,Bool.not_false,Bool.and_true,if_false];exact this
theorem Z9h.fin(h:Z9h K (fun _=>false) mt e)(hs:Q0n e)(hm:Q0n mt):e.map (·.1)=mt.map (·.1)/\∀(i:Nat) v t,e[i]?=some v->mt[i]?=some t->Q0r K v.2 t.2:=by
 have hk:e.map (·.1)=mt.map (·.1):=Q7b hs hm fun k=>by
  have:=h k;simp only[Bool.false_eq_true,if_false]at this;cases hf:findK mt k with
  |none=>rw[hf]at this;rw[this];rfl
  |some u=>rw[hf]at this;obtain⟨v,h1,_⟩:=this;rw[h1];rfl
 refine⟨hk,fun i v t h1 h2=>?_⟩;obtain⟨k,v⟩:=v;obtain⟨l,t⟩:=t;have e1:(e.map (·.1))[i]?=some k:=by rw[List.getElem?_map,h1];rfl
 have e2:(mt.map (·.1))[i]?=some l:=by rw[List.getElem?_map,h2];rfl
 rw[hk,e2]at e1;cases e1;have:=h k;simp only[Bool.false_eq_true,if_false]at this;rw[Q3g hm (mem_of_getElem? h2)]at this;obtain⟨v',h3,h4⟩:=this;rw[Q3g hs (mem_of_getElem? h1)]at h3;cases h3;exact h4
end
section
def Z8w(lv rv:Value)(b sb nb al N np:Nat)(sp:OA)(t:Tr)(bs:List Nat)(VB:List Blk)(u:Value)(K:Gh)(L':List Blk)(R':List Rw):Prop:=
 u=sn/\∃o val il n' sp' PB' PR' pa pc,n'<=N/\Q3b sp sp'/\Pool 460 693 456 16 n' sp' PB' PR'/\K.cell (ad o 0) val/\Q0r K val t/\L'=(b,mc lv rv sb nb al (.slice pa np pc) (some (ad o 0)) il sp',.t 460)::(PB'++VB)/\R'=pathRw pa np pc bs::PR'
def MAll(z:Nat):Prop:=∀(J:Gh) (vl vr:Option Value) (lo ro:Option Tr) (lb rb:Nat) (VB:List Blk),OIs J VB vl lo lb->OIs J VB vr ro rb->(vl.isSome=true\/vr.isSome=true)->alO lo ro->osz lo+osz ro<=z->
 ∀(N b sb nb al n np:Nat) (sp:OA) (PB:List Blk) (PR:List Rw) (bs:List Nat) (pa:OA) (pc:Nat),osz lo+osz ro<=N->n<=N/\N<2 ^ 30->Q2c J sb->Nm J nb nmDe->Pool 460 693 456 16 n sp PB PR->bs.length=np->np+(osz lo+osz ro)<2 ^ 30->
 Ac 232 #[pt b,.nilFunc] J ((b,mc (vif vl lb) (vif vr rb) sb nb al (.slice pa np pc) none false sp,.t 460)::(PB++VB)) (pathRw pa np pc bs::PR) (Z8w (vif vl lb) (vif vr rb) b sb nb al N np sp (Q9h lo ro) bs VB)
theorem mitem_s{J:Gh}{z N n np b mp mo sb nb nb2 al pc lb rb:Nat}{sp pa:OA}{lv rv:Value}{vl vr:Option Value}{lo ro:Option Tr}{PB VB:List Blk}{PR:List Rw}{bs:List Nat}{k:BA}{e:KV}(IH:MAll z)(hlv:lv.oneCell'=true)(hrv:rv.oneCell'=true)(ho1:OIs J VB vl lo lb)(ho2:OIs J VB vr ro rb)(hsome:vl.isSome=true\/vr.isSome=true)(hal:alO lo ro)(hz:osz lo+osz ro<=z)(hN:osz lo+osz ro+1<=N)(hnN:n<=N/\N<2 ^ 30)
  (hs:Q2c J sb)(hnm:Nm J nb2 nmDe)(hmp:J mp=some (.cells (L1a nb2 Q6r).toArray 337 (0,0)))(hp:Pool 460 693 456 16 n sp PB PR)(hbs:bs.length=np)(hD:np+1+(osz lo+osz ro)<2 ^ 30)(he:e.length<maxLen)(hk:k.size<=maxLen):
  Ac 471 #[pt b,pt mp,.map (some mo),.string k,vif vl lb,vif vr rb] J ((b,mc lv rv sb nb al (.slice pa np pc) none false sp,.t 460)::(PB++((mo,[],.m e)::VB))) (pathRw pa np pc bs::PR)
   fun u K L' R'=>u=sn/\∃val n' sp' PB' PR' pa' pc',n'<=N/\Q3b sp sp'/\Pool 460 693 456 16 n' sp' PB' PR'/\Q0r K val (Q9h lo ro)/\L'=(b,mc lv rv sb nb al (.slice pa' np pc') none false sp',.t 460)::(PB'++((mo,[],.m (insK e k val))::VB))/\R'=pathRw pa' np pc' bs::PR':=by
 intro M I w W S;have hFF:∀(i:Nat) u,((L1b nb2):List Value)[i]?=some u->J.cell (ad mp (2+i)) u:=fun i u hu=>by
  refine⟨_,_,_,hmp,rfl,?_⟩;match i,hu with
  |0,h|1,h|2,h|3,h|4,h|5,h=>simpa using h
  |i+6,h=>simp at h
 have hc0:J.cell (ad mp 0) (sn):=⟨_,_,_,hmp,rfl,rfl⟩
 have HC0:=Hd (And.intro hc0 hFF);have HU:=Hd (nd6 ho1 ho2 hsome hal hz (And.intro hN hnN));have HS:=Hd (nd3 IH hs hnm);have HF:=Hd (nd3 hp hbs hD);have HM:=Hd (And.intro he hk);have HL:=Hd (And.intro hlv hrv);clear IH ho1 ho2 hsome hal hz hN hnN hs hnm hmp hp hbs hD he hk hc0 hFF hlv hrv;simp only[mc]at S;go_enter func471,ntmps471;go_wp2_with (first|go_at_call 475;refine Q0a S (mprep_s (b:=b) (sb:=sb) (nb:=nb) (al:=al) (lv:=lv) (rv:=rv) (nb2:=nb2) (x:=kb) (np:=np) (pa:=pa) (pc:=pc) (bs:=bs) HL.out.1 HL.out.2 HF.out.1 b1z (by have:=HF.out.2.2;omega)) ?_;rintro r K L1 R1 W' hle ⟨hKJ,b2,P,PB1,A1,c1,PR1,rfl,hq1,hq2,rfl,rfl⟩ S2;have hJK:=hKJ.symm;subst hJK;clear S;have S:=S2;clear S2;replace S:=sa S;have HQ:=Hd (And.intro hq1 hq2);clear hq1 hq2|refine wB ?_;clear S;intro kb W S0;obtain⟨K1,hle1,hk1,S⟩:=S0.out.freeze;clear S0;replace S:=Hd S;have HC:=Hd (And.intro (HC0.out.1.mono hle1) fun i u h=>(HC0.out.2 i u h).mono hle1);have hkc:K1.cell (ad kb 0) (.string k):=⟨_,_,_,hk1,rfl,rfl⟩|go_at_call 235;refine got S (Q3k _ mp k HC.out.1) ?_;clear S;intro W S|refine wk ?_|refine X9l (sub:=(L1b nb2)) rf rfl rfl rfl HC.out.2 S.out.inw ?_|refine Q7u (v:=vif vl lb) S rfl rfl rfl rfl (Z9b _ _) ?_;clear S;intro W S|refine Q7u (v:=vif vr rb) S rfl rfl rfl rfl (Z9b _ _) ?_;clear S;intro W S|refine Ws ?_;clear S;intro W S|refine wA ?_;clear S;intro _ W S)
 have hcall:=HS.out.1 K1 vl vr lo ro lb rb VB (HU.out.1.mono hle1) (HU.out.2.1.mono hle1) HU.out.2.2.1 HU.out.2.2.2.1 HU.out.2.2.2.2.1 (N -1) b2 sb nb2 al (n -1) (np+1) (some (ad P 0)) PB1 PR1 (bs++[kb]) A1 c1 (by have:=HU.out.2.2.2.2.2.1;omega) b1z (HS.out.2.1.mono hle1) (HS.out.2.2.mono hle1) HQ.out.2 (by simp[HF.out.2.1]) (by have:=HF.out.2.2;omega);simp only[mc]at hcall;refine Q0a S hcall ?_;clear hcall;rintro r K2 L' R2 W' hle2 ⟨rfl,o,val,il2,n2,sp2,PB2,PR2,pa2,pc2,hn2,hsp2,hp2,ho,hv,rfl,rfl⟩ S2;obtain rfl:sp2=some (ad P 0):=by cases hsp2;rfl
 have HP:=Hd (nd4 hn2 hp2 hv hle2);have ho2:K2.cell (ad o 0) val:=ho;have hkc2:K2.cell (ad kb 0) (.string k):=hkc.mono hle2;clear S hn2 hsp2 hp2 ho hv;have S:=S2;clear S2;simp only[mc,cons_append,nil_append,List.append_nil,List.append_assoc]at S;go_wp2_with (first|refine Z4o rfl rfl rfl rfl underlying373 Z0q ?_|refine wk ?_)
 refine Rg S [(b2,[vif vl lb,vif vr rb,pt sb,pt nb2,pn,pn,pn,pn,.bool false,.slice pa2 (np+1) pc2,.func (.func 182) #[] #[],.nilFunc,pt o,.bool il2,pt P,.iface 340 (pt al)],.t 460)] [] [] [0,1,2,3,4,5,6,7] 1 fun W S=>?_;refine tk33 ?_;refine Wr [] 0 8 fun KK hKK=>?_;replace S:=Lib.front S [(mo,[],.m e)] [];replace S:=sa S;refine Z5j (s:=k) (v:=val) S rfl rfl rfl rfl underlying283 HM.out.1 HM.out.2 ?_;clear S;intro W S;refine Ey ?_;go_wp2_with (refine wk ?_)
 refine Q0a S (mfin_s (b:=b) (b2:=b2) (P:=P) (x:=kb) (sb:=sb) (nb:=nb) (al:=al) (lv:=lv) (rv:=rv) (q0:=vif vl lb) (q1:=vif vr rb) (q2:=pt sb) (q3:=pt nb2) (q4:=pn) (q5:=pn) (q6:=pn) (q7:=pn) (q8:=.bool false) (q10:=.func (.func 182) #[] #[]) (q11:=.nilFunc) (q12:=pt o) (q13:=.bool il2) (q14:=pt P) (q15:=.iface 340 (pt al)) (np:=np) (pa:=pa2) (pc:=pc2) (A0:=pa) (n0:=np) (c0:=pc) (bs:=bs) HP.out.2.1 (by have:=HU.out.2.2.2.2.2.2;have:=HP.out.1;omega) (by have:=HF.out.2.2;omega) HF.out.2.1) ?_;rintro r K L5 R5 W' hle ⟨hKJ,PB3,PR3,hp3,rfl,rfl⟩ S2;subst hKJ;clear S;have S:=S2;clear S2;replace S:=sa S;go_wp2_with (refine wk ?_)
 go_ret;refine ap (gT hle1 HP.out.2.2.2) ⟨rfl,val,_,_,PB3,PR3,pa2,pc2,(by have:=HP.out.1;have:=HU.out.2.2.2.2.2.1;omega),HQ.out.1,hp3,HP.out.2.2.1,rfl,rfl⟩ ?_;exact(show St _ _ _ _ _ ((b,[lv,rv,pt sb,pt nb,pn,pn,pn,pn,.bool false,.slice pa2 np pc2,.func (.func 182) #[] #[],.nilFunc,pn,.bool false,pt P,.iface 340 (pt al)],.t 460)::(PB3++((mo,[],.m (insK e k val))::VB))) (pathRw pa2 np pc2 bs::PR3)from keep S)
end
section
def mL4(y1 y2 y3 y4 mo b mp:Nat):List Blk:=[(y1,[pt b],.t 456),(y2,[pt mp],.t 109),(y3,[sn],.t 373),(y4,[.map (some mo)],.t 283)]
variable{ml mr:KV}{bs:List Nat}{PR:List Rw}{PB:List Blk}{lv rv:Value}{sp pa:OA}{N np b mp mo y1 y2 y3 y4 sb nb al pc z n nb2:Nat}
theorem mclo_s{lb rb:Nat}{vl vr:Option Value}{k:BA}{t:Tr}
  (hI:Ac 471 #[pt b,pt mp,.map (some mo),.string k,vif vl lb,vif vr rb] J ((b,mc lv rv sb nb al (.slice pa np pc) none false sp,.t 460)::(PB++((mo,[],.m e)::(vblk vl lb++vblk vr rb)))) (pathRw pa np pc bs::PR)
   fun u K L' R'=>u=sn/\∃val n' sp' PB' PR' pa' pc',n'<=N/\Q3b sp sp'/\Pool 460 693 456 16 n' sp' PB' PR'/\Q0r K val t/\L'=(b,mc lv rv sb nb al (.slice pa' np pc') none false sp',.t 460)::(PB'++((mo,[],.m (insK e k val))::(vblk vl lb++vblk vr rb)))/\R'=pathRw pa' np pc' bs::PR'):
  Ac 470 (#[.string k,vif vl lb,vif vr rb]++#[pt y3,pt y1,pt y2,pt y4]) J (vblk vl lb++(vblk vr rb++(mL4 y1 y2 y3 y4 mo b mp++((b,mc lv rv sb nb al (.slice pa np pc) none false sp,.t 460)::(PB++[(mo,[],.m e)]))))) (pathRw pa np pc bs::PR)
   fun u K L' R'=>u=.bool true/\∃val n' sp' PB' PR' pa' pc',n'<=N/\Q3b sp sp'/\Pool 460 693 456 16 n' sp' PB' PR'/\Q0r K val t/\L'=vblk vl lb++(vblk vr rb++(mL4 y1 y2 y3 y4 mo b mp++((b,mc lv rv sb nb al (.slice pa' np pc') none false sp',.t 460)::(PB'++[(mo,[],.m (insK e k val))]))))/\R'=pathRw pa' np pc' bs::PR':=by
 intro M I w W S;have HI:=Hd hI;clear hI;simp only[mL4,mc,cons_append,nil_append]at S HI;go_enter func470,ntmps470;go_wp2_with fail
 refine Rg S [(y1,[pt b],.t 456),(y2,[pt mp],.t 109),(y3,[sn],.t 373),(y4,[.map (some mo)],.t 283)] [] [9] [0,1,2,3,4,5,6] 3 fun W S=>?_;refine Zw [] 2 7 ?_;intro KK hKK;go_simp;refine Q0a S HI.out ?_;rintro r K2 L' R2 W' hle2 ⟨rfl,val,n2,sp2,PB2,PR2,pa2,pc2,hn2,hsp2,hp2,hv2,rfl,rfl⟩ S2;have HP:=Hd (nd5 hn2 hsp2 hp2 hv2 hle2);clear S hn2 hsp2 hp2 hv2;have S:=S2;clear S2;replace S:=sa S;(try simp only[mc]at S);refine Yw [] 1 8 ?_;intro KK hKK;refine Q4b rfl rfl rfl underlying373 Z0q ?_;refine Hy ?_;refine Cl 9 fun KK hKK=>?_;refine Q0j (v:=sn) S rfl rfl rfl rfl ?_;clear S;intro W S;refine hKK.out _ _ (NoPanic.normal ?_);clear hKK KK;go_wp2_with (refine wk ?_)
 go_ret;refine ap HP.out.2.2.2.2 ⟨rfl,val,n2,sp2,PB2,PR2,pa2,pc2,HP.out.1,HP.out.2.1,HP.out.2.2.1,HP.out.2.2.2.1,rfl,rfl⟩ ?_;exact(show St _ _ _ _ _ (vblk vl lb++(vblk vr rb++((y1,[pt b],.t 456)::(y2,[pt mp],.t 109)::(y3,[sn],.t 373)::(y4,[.map (some mo)],.t 283)::(b,[lv,rv,pt sb,pt nb,pn,pn,pn,pn,.bool false,.slice pa2 np pc2,.func (.func 182) #[] #[],.nilFunc,pn,.bool false,.pointer sp2,.iface 340 (pt al)],.t 460)::(PB2++[(mo,[],.m (insK e k val))])))) (pathRw pa2 np pc2 bs::PR2)from keep S)
def mzInv(y1 y2 y3 y4 mo b mp:Nat)(lv rv:Value)(sb nb al N np:Nat)(sp:OA)(bs:List Nat)(lo ro:Option Tr)(left:BA->Bool)(K:Gh)(L':List Blk)(R':List Rw):Prop:=
 ∃e n' sp' PB' PR' pa' pc',n'<=N/\Q3b sp sp'/\Pool 460 693 456 16 n' sp' PB' PR'/\Q0n e/\Z9h K left (Z1v lo ro) e/\e.length+wt2 1 left lo ro<=2*(Q0p (fldO lo)+Q0p (fldO ro))*1/\
  L'=mL4 y1 y2 y3 y4 mo b mp++((b,mc lv rv sb nb al (.slice pa' np pc') none false sp',.t 460)::(PB'++[(mo,[],.m e)]))/\R'=pathRw pa' np pc' bs::PR'
theorem osz_pos{x y:Option Tr}(h:x.isSome=true\/y.isSome=true):1<=osz x+osz y:=by
 cases x with
 |some t=>have:=Q1l t;simp only[osz];omega
 |none=>cases y with
  |some t=>have:=Q1l t;simp only[osz];omega
  |none=>simp at h
variable{ol or':Option Nat}
theorem mstep_s{pc:Nat}{pa:OA}(IH:MAll z)(hlv:lv.oneCell'=true)(hrv:rv.oneCell'=true)(h1:MIs J ol ml lo)(h2:MIs J or' mr ro)(hn1:noNO lo)(hn2:noNO ro)(hal:alO lo ro)(hz:Q0p (fldO lo)+Q0p (fldO ro)<=z)(hN:Q0p (fldO lo)+Q0p (fldO ro)+1<=N)(hnN:n<=N/\N<2 ^ 30)(hs:Q2c J sb)(hnm:Nm J nb2 nmDe)(hmp:J mp=some (.cells (L1a nb2 Q6r).toArray 337 (0,0)))(hp:Pool 460 693 456 16 n sp PB PR)(hbs:bs.length=np)(hD:np+1+(Q0p (fldO lo)+Q0p (fldO ro))<2 ^ 30):Z3h 470 #[pt y3,pt y1,pt y2,pt y4] J ml mr (mzInv y1 y2 y3 y4 mo b mp lv rv sb nb al N np sp bs lo ro):=by
 rintro left K L R k lb rb hle ⟨e,n',sp',PB',PR',pa',pc',g1,g2,g3,g4,g5,g6,rfl,rfl⟩ hks hls hor;have hw:=X8l (D:=1) hls lo ro;have e1:=Z1s (m:=fldO lo) k;have e2:=Z1s (m:=fldO ro) k;have q1:=Q2b h1;have q2:=Q2b h2;have hor2:(findK (fldO lo) k).isSome=true\/(findK (fldO ro) k).isSome=true:=by
  rcases hor with h|h
  ·left;rcases Q6a h1 k with⟨h3,_⟩|⟨v,u,_,h4,_⟩
   ·rw[h3]at h;cases h
   ·rw[h4];rfl
  ·right;rcases Q6a h2 k with⟨h3,_⟩|⟨v,u,_,h4,_⟩
   ·rw[h3]at h;cases h
   ·rw[h4];rfl
 have hpos:=osz_pos hor2;have hfk:findK (Z1v lo ro) k=some (Q9h (findK (fldO lo) k) (findK (fldO ro) k)):=by rw[Q8o q1.1 q2.1 q1.2 q2.2,pairO_some hor2]
 refine(mclo_s (mitem_s (VB:=vblk (findK ml k) lb++vblk (findK mr k) rb) IH hlv hrv (Z2q h1 hn1 hle k lb fun x hx=>List.mem_append_left _ hx) (Z2q h2 hn2 hle k rb fun x hx=>List.mem_append_right _ hx) hor (X1s hal k) om om ⟨g1,hnN.2⟩ (hs.mono hle) (hnm.mono hle) (hle _ _ hmp) g3 hbs om b0q hks)).mono ?_;rintro u K2 L2 R2 hle2 ⟨hu,val,n2,sp2,PB2,PR2,pa2,pc2,p1,p2,p3,p4,rfl,rfl⟩;refine⟨hu,_,rfl,insK e k val,n2,sp2,PB2,PR2,pa2,pc2,p1,g2.trans p2,p3,(Q2v g4 k val).1,(g5.mono hle2).step g4 hfk p4,?_,rfl,rfl⟩;have:=Q3r e k val;omega
theorem minv0(IH:MAll z)(hlv:lv.oneCell'=true)(hrv:rv.oneCell'=true)(h1:MIs J ol ml lo)(h2:MIs J or' mr ro)(hn1:noNO lo)(hn2:noNO ro)(hal:alO lo ro)(hz:Q0p (fldO lo)+Q0p (fldO ro)<=z)(hN:Q0p (fldO lo)+Q0p (fldO ro)+1<=N)(hnN:n<=N/\N<2 ^ 30)(hs:Q2c J sb)(hnm:Nm J nb2 nmDe)(hmp:J mp=some (.cells (L1a nb2 Q6r).toArray 337 (0,0)))(hp:Pool 460 693 456 16 n sp PB PR)(hbs:bs.length=np)(hD:np+1+(Q0p (fldO lo)+Q0p (fldO ro))<2 ^ 30):mzInv y1 y2 y3 y4 mo b mp lv rv sb nb al N np sp bs lo ro (zAll ml mr) J (mL4 y1 y2 y3 y4 mo b mp++((b,mc lv rv sb nb al (.slice pa np pc) none false sp,.t 460)::(PB++[(mo,[],.m [])]))) (pathRw pa np pc bs::PR):=by
 have q1:=Q2b h1;have q2:=Q2b h2;refine⟨[],n,sp,PB,PR,pa,pc,hnN.1,.same,hp,List.Pairwise.nil,fun k=>?_,by have:=wt2_le 1 (zAll ml mr) lo ro;simp only[List.length_nil];omega,rfl,rfl⟩;split
 ·rfl
 ·next hk=>
  have hk:zAll ml mr k=false:=by simpa using hk
  simp only[zAll,Bool.or_eq_false_iff]at hk;have g1:findK (fldO lo) k=none:=by
   rcases Q6a h1 k with⟨_,h⟩|⟨v,u,h,_,_⟩
   ·exact h
   ·rw[h]at hk;simp at hk
  have g2:findK (fldO ro) k=none:=by
   rcases Q6a h2 k with⟨_,h⟩|⟨v,u,h,_,_⟩
   ·exact h
   ·rw[h]at hk;simp at hk
  rw[Q8o q1.1 q2.1 q1.2 q2.2,g1,g2];rfl
theorem mapAt_of{M:Nat->Prop}{I:Gh}{w W:World}{L:List Blk}{R:List Rw}{r:Nat}(S:Hid (St M I J w W L R))(h:(r,([]:List Value),Bt.m e)∈L):Q3z W r e:=(S.out.own _ h).1
theorem X0a{VB:List Blk}(IH:MAll z)(hlv:lv.oneCell'=true)(hrv:rv.oneCell'=true)(h1:MIs J ol ml lo)(h2:MIs J or' mr ro)(hn1:noNO lo)(hn2:noNO ro)(hal:alO lo ro)(hz:Q0p (fldO lo)+Q0p (fldO ro)<=z)(hN:Q0p (fldO lo)+Q0p (fldO ro)+1<=N)(hnN:n<=N/\N<2 ^ 30)(hs:Q2c J sb)(hnm:Nm J nb2 nmDe)(hmp:J mp=some (.cells (L1a nb2 Q6r).toArray 337 (0,0)))(hp:Pool 460 693 456 16 n sp PB PR)(hbs:bs.length=np)(hD:np+1+(Q0p (fldO lo)+Q0p (fldO ro))<2 ^ 30)(hsome:ol.isSome=true\/or'.isSome=true)(hne:Z1v lo ro≠[]):
  Ac 465 #[pt b,pt mp,mapV ol,mapV or'] J ((b,mc lv rv sb nb al (.slice pa np pc) none false sp,.t 460)::(PB++VB)) (pathRw pa np pc bs::PR) (Z8w lv rv b sb nb al N np sp (.map (Z1v lo ro)) bs VB):=by
 intro M I w W S;have HC:=fun y1 y2 y3 y4 mo=>X9g (al:=al) (Go.MuLone.run_callFunc_enter func470 kr rfl) (mstep_s (y1:=y1) (y2:=y2) (y3:=y3) (y4:=y4) (mo:=mo) (b:=b) (mp:=mp) (nb:=nb) (al:=al) (pa:=pa) (pc:=pc) IH hlv hrv h1 h2 hn1 hn2 hal hz hN hnN hs hnm hmp hp hbs hD) (Z4q h1) (Z4q h2) (X7f h1) (X7f h2) (minv0 (y1:=y1) (y2:=y2) (y3:=y3) (y4:=y4) (mo:=mo) (b:=b) (mp:=mp) (nb:=nb) (al:=al) (pa:=pa) (pc:=pc) IH hlv hrv h1 h2 hn1 hn2 hal hz hN hnN hs hnm hmp hp hbs hD) hsome;have q1:=Q2b h1;have q2:=Q2b h2;have HQ:=Hd (And.intro (Z9r q1.1 q2.1 q1.2 q2.2) hne);have HC:=Hd HC;clear hsome hne q1 q2 hD hbs hp hmp hnm hs hnN hN hz hal hn2 hn1 h2 h1 hrv hlv IH;simp only[mc]at S;go_enter func465,ntmps465;go_wp2_with (first|refine wk ?_|refine Ws ?_;clear S;intro W S|refine X1a S rfl rfl ?_;clear S;intro mo W S|refine wA ?_;clear S;(first|(fail_if_success revert y3);intro y3 W S|intro y4 W S)|refine wB ?_;clear S;(first|(fail_if_success revert y1);intro y1 W S|intro y2 W S))
 have hcall:=HC.out y1 y2 y3 y4 mo;simp only[mL4,mc,cons_append,nil_append]at hcall;refine Q0a S hcall ?_;clear hcall;rintro r K2 L' R2 W' hle2 ⟨rfl,e,n2,sp2,PB2,PR2,pa2,pc2,hn2,hsp2,hp2,hse,hde,_,rfl,rfl⟩ S2;obtain⟨hek,hev⟩:=hde.fin hse HQ.out.1;have hel2:0<e.length:=by
  have h9:=congrArg List.length hek;simp only[List.length_map]at h9;have:=HQ.out.2;cases hm:Z1v lo ro with
  |nil=>exact absurd hm this
  |cons a l=>rw[hm]at h9;simp only[List.length_cons]at h9;omega
 have HP:=Hd (nd5 hn2 hsp2 hp2 (And.intro hek hev) hle2);clear S hn2 hsp2 hp2 hek hev hse hde;have S:=S2;clear S2;simp only[mL4,mc,cons_append,nil_append,List.append_nil,List.append_assoc]at S;go_wp2_with (first|at_len;refine Q5z rfl _ 283 20 rfl underlying283 mo e rfl (mapAt_of S b0f) ?_|refine wk ?_|refine Ws ?_;clear S;intro W S|refine wn ?_;clear S;intro y5 W S)
 refine bT ?_;have S9:=Lib.front S [(mo,[],.m e),(y5,[.iface 283 (.map (some mo))],.t 20)] [];simp only[cons_append,nil_append]at S9;obtain⟨K3,hle3,hkm,S10⟩:=S9.out.freezeM;obtain⟨K4,hle4,hk5,S11⟩:=S10.freeze;have S12:=Hd S11;refine ap (gT (gT HP.out.2.2.2.2 hle3) hle4) ⟨rfl,y5,.iface 283 (.map (some mo)),false,n2,sp2,PB2,PR2,pa2,pc2,HP.out.1,HP.out.2.1,HP.out.2.2.1,⟨_,_,_,hk5,rfl,rfl⟩,.map mo e _ (hkm.mono hle4) HP.out.2.2.2.1.1 (fun i v t h3 h4=>((HP.out.2.2.2.1.2 i v t h3 h4).mono hle3).mono hle4),rfl,rfl⟩ ?_;exact(show St _ _ _ _ _ ((b,[lv,rv,pt sb,pt nb,pn,pn,pn,pn,.bool false,.slice pa2 np pc2,.func (.func 182) #[] #[],.nilFunc,pt y5,.bool false,.pointer sp2,.iface 340 (pt al)],.t 460)::(PB2++VB)) (pathRw pa2 np pc2 bs::PR2)from keep S12)
end
section
def NoNullH(N:Nat):Prop:=∀(J:Gh) (v:V6) (t:Tr) (w:World),t.bulk<N->J.In w->VIs J v t.iv->Calls prog 180 #[v.agg] w (Got Nix J w (.bool (Q1i t)))
theorem noNull_z(I:Gh)(n:Int)(f:Nat)(s:BA)(a1:OA)(n1 c1:Nat)(a2:OA)(n2 c2:Nat)(w:World)(hi:I.In w):
  Calls prog 180 #[.agg #[.int .i64 0,.int .i64 n,.float .f64 f,.string s,.slice a1 n1 c1,.slice a2 n2 c2]] w (Got Nix I w (.bool false)):=by
 go_enter func180,ntmps180;go_wp2_with fail
 go_ret;exact⟨rfl,(Step.refl hi).alloc _⟩
theorem noNull_0(I:Gh)(k n:Int)(h0:(k==0)=false)(h6:(k==6)=false)(f:Nat)(s:BA)(a1:OA)(n1 c1:Nat)(a2:OA)(n2 c2:Nat)(w:World)(hi:I.In w):
  Calls prog 180 #[.agg (L0e k n f s a1 n1 c1 a2 n2 c2).toArray] w (Got Nix I w (.bool true)):=by
 go_enter func180,ntmps180;go_wp2_with fail
 go_rounds 1;go_wp2_with fail
 go_ret;exact⟨rfl,(Step.refl hi).alloc _⟩
theorem noNull_6(N:Nat)(HC:NoNullH N)(I:Gh)(n:Int)(f:Nat)(s:BA)(a1:OA)(n1 c1:Nat)(a2:OA)(c2:Nat)(vs:List V6)(l:List Tr)(w:World)(hi:I.In w)(hm:l.length<=2 ^ 32)(h2:Q6n I a2 vs)(ha:All2 (fun v u=>VIs I v u.iv) vs l)(hb:∀u,u∈l->u.bulk<N):
  Calls prog 180 #[.agg (L1i n f s a1 n1 c1 a2 l.length c2).toArray] w (Got Nix I w (.bool (l.all Q1i))):=by
 have HA:=Hd ha;have H2:=Hd h2;have HB:=Hd hb;clear ha h2 hb;go_enter func180,ntmps180;go_wp2_with fail
 go_loopg [3] l.length (fun g y wr=>∃i:Nat,y=.int .i64 (i:Nat)/\i<=l.length/\g=l.length -i/\Step Nix I I w wr/\Hid ((l.take i).all Q1i=true)/\wr.heap[w.heap.size]?=some (.cells (L1i n f s a1 n1 c1 a2 l.length c2).toArray 35 (0,0)))
 case atStart=>exact⟨0,rfl,Nat.zero_le _,rfl,(Step.refl hi).alloc _,Hd rfl,Q1b rfl⟩
 case round=>
  obtain⟨i,rfl,hil,hg,st,hall,hbox⟩:=hrel;have p:=Q0h hbox;obtain⟨⟨p0,p1,p2,p3,p4,p5⟩,_⟩:=p;by_cases hlt:i<l.length
  ·obtain⟨u,hu⟩:∃u,l[i]?=some u:=gx hlt;obtain⟨v,hv⟩:∃v,vs[i]?=some v:=gx b1l;obtain⟨b2,o2,rfl,hs2⟩:∃b o,a2=some ⟨b,o,none⟩/\Six I b (o+i*6) v:=by
    rcases H2.out with⟨_,e⟩|⟨b,o,e,h⟩
    ·rw[e]at hv;simp at hv
    ·exact⟨b,o,e,h i v hv⟩
   have d:=hs2.at st.inw;have hV:=HA.out.get hv hu;have hBu:=HB.out u (mem_of_getElem? hu);have S1:=Hd st;have HX:=Hd (nd3 hg hu hV);clear hu hv hs2 hg st hV;go_wp2_with (refine Q3h rf _ rf b2 (o2+i*6) rf _ _ _ _ _ _ d ?_)
   refine(HC I v u _ hBu S1.out.inw HX.out.2.2).mono ?_;rintro e w2 ⟨rfl,st2⟩;have S2:=Hd (S1.out.trans0 st2);have hbox2:=st2.heap hbox (fun x=>x);clear p0 p1 p2 p3 p4 p5 hbox;clear st2 d;cases ho:Q1i u with
   |true=>
    go_wp2_with fail
    go_roundg (l.length -(i+1))
    case measure=>have:=HX.out.1;omega
    case rel=>exact⟨i+1,rfl,by omega,rfl,S2.out,Hd b2g,hbox2⟩
   |false=>
    go_wp2_with fail
    go_ret;refine⟨?_,S2.out⟩;have:l.all Q1i=false:=by
     cases hA:l.all Q1i with
     |false=>rfl
     |true=>have:=List.all_eq_true.1 hA u (mem_of_getElem? HX.out.2.1);rw[ho]at this;cases this
    rw[this];rfl
  ·obtain rfl:i=l.length:=by omega
   have ST:=Hd st;clear hg st;go_wp2_with fail
   exact e1i
theorem Z7o:∀N,N<=2 ^ 32->NoNullH N
 |0,_=>fun J v t w hx _ _=>absurd hx (Nat.not_lt_zero _)
 |N+1,hN=>fun J v t w hx hi hv=>by
  have HC:=Z7o N om;have hlen:=Z0e t;have hb:∀u,u∈t.kids->u.bulk<N:=fun u hu=>by have:=Z1i hu;omega
  obtain⟨a1,c1,a2,c2,vs,rfl,h1,hn,h2,ha,_⟩:=hv.kids;cases t with
  |map m=>rw[X5g];exact noNull_6 N HC J _ _ _ a1 _ c1 a2 c2 vs (m.map (fun p:BA×Tr=>p.2)) w hi b1n h2 ha hb
  |null=>exact noNull_z J _ _ _ a1 _ c1 a2 _ c2 w hi
  |_=>exact noNull_0 J _ _ rfl rfl _ _ a1 _ c1 a2 _ c2 w hi
theorem noNull_x{I:Gh}{v:V6}{t:Tr}(hv:VIs I v t.iv)(hx:t.bulk<2 ^ 32)(w:World)(hi:I.In w):Calls prog 180 #[v.agg] w (Got Nix I w (.bool (Q1i t))):=
 Z7o (2 ^ 32) (Nat.le_refl _) I v t w hx hi hv
end
end Go.Proofs.YtbmklgemmjgjfaaGreat
