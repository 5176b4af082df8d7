/- Part 48: Aly, Api. -/
import Derived.Test.YtbmklgemmjgjfaaGreatT41
import Derived.Test.YtbmklgemmjgjfaaGreatT46
namespace Go.Proofs.YtbmklgemmjgjfaaGreat
open List (mem_map pairwise_cons)
open Go.RowKit Go.Maps Tryz
set_option linter.unusedVariables false
set_option linter.unusedSimpArgs false
set_option maxRecDepth 100000
set_option maxHeartbeats 16000000
section
section
variable{P:Program}{md:Region.Mode}{ops:Array Oper}{Q:EAW}{S:World->Prop}{Z:List Nat}{J:Gh}{L:List Blk}{R:List Rw}{o:Oper}{a:Act}{x:Operand}{t:TypeId}{b j:Nat}{v:Value}
theorem writesW(is:List Nat)(f2:Nat){i:Nat}{fuel:Nat}{listed:Array Bool}{W:World}(hr:Region.ready md ops listed=[i])[ho:OpA ops i o](hw:Region.wanted o (yielded ops a.tmps)=true)(hQ:∀c a d v w,Q (.panic c) (Act.put a d v) w->Q (.panic c) a w)(hs:Region.noSelect ops=true)(hf:fuel=f2+is.length)(hc:chkT md ops Z is (listed.setIfInBounds i true)=true)
  (h:∀K:AW,Shut (∀a W,S W->YS P ops S is a (fun a'=>Q0w P md ops Q S Z f2 (Q5k is (listed.setIfInBounds i true)) a' W)->K a W)->Oper.wp P o a W K Q):Q0w P md ops Q S Z (fuel+1) listed a W:=by
 refine Q5n hr b0f (Q1o.held ho.h (fun K hK=>?_) Q1o.nil);rw[if_pos hw];subst hf;exact h K fun a W hS hY=>hK a W hS fun _=>X2c hQ hs f2 is hc hS hY
theorem y_frzSW{n:Nat}{sub:List Value}(hw:Region.wanted o (yielded ops a.tmps)=true)(ho:o.op=.load t x)(hx:a.eval x=.pointer (some (ad b j)))[k:Tsz P t n true](hn:sub.length=n)(hc:∀(i:Nat) u,sub[i]?=some u->J.cell (ad b (j+i)) u)(hv:Value.agg sub.toArray=v):YieldsIf P ops (Vw J L R) o v a:=
 y_at hw fun W hW=>by rw[<-hv];exact Q4j ho hx (Q3f k.a k.s (fun i u hu=>(hc i u hu).at hW.2.2) hn)
end
theorem WrW{P:Program}{md:Region.Mode}{ops:Array Oper}{Q:EAW}{S:World->Prop}{Z:List Nat}{W:World}{o:Oper}{a:Act}(is:List Nat)(f2 i:Nat){fuel:Nat}{listed:Array Bool}[ho:OpA ops i o]
  (h:∀K:AW,Shut (∀a W,S W->YS P ops S is a (fun a'=>Q0w P md ops (NoPanic Q) S Z f2 (Q5k is (listed.setIfInBounds i true)) a' W)->K a W)->Oper.wp P o a W K (NoPanic Q))
  (hr:Region.ready md ops listed=[i]:=by kernel_rfl)(hw:Region.wanted o (yielded ops a.tmps)=true:=by kernel_rfl)(hs:Region.noSelect ops=true:=by kernel_rfl)(hf:fuel=f2+is.length:=by rfl)(hc:chkT md ops Z is (listed.setIfInBounds i true)=true:=by kernel_rfl):Q0w P md ops (NoPanic Q) S Z (fuel+1) listed a W:=
 writesW is f2 hr hw (fun _ _ _ _ _ h=>h) hs hf hc h
structure ApIn(J:Gh)(u sb nb rs rm tb1 tb2 B mr:Nat)(tl tr:Tr)(v wf:BA)(e:KV)(F:MF):Prop where
 u:UpIs J u sb nb rs rm false
 t1:TvIs J tb1 sb nb tl
 t2:TvIs J tb2 sb nb tr
 sz:2*(tl.size+(tl.size+tr.size))*(tl.size+(tl.size+tr.size))<2 ^ 27
 szm:(Q0d tl tr).size<=tl.size+tr.size
 al:Q2d tl tr=true
 nl:Q1i tl=true
 nr:Q1i tr=true
 al2:Q2d tl (Q0d tl tr)=true
 nr2:Q1i (Q0d tl tr)=true
 vz:v.size<=maxLen
 wz:wf.size<=maxLen
 m:J.map mr e
 vs:VSs J v e F
 new:F wf=none
 b:∀k f ap,F k=some (f,ap)->f.cnt<=B
 b1:2*tr.size*tr.size<=B
 b2:B<2 ^ 28
 len:(e.length+1)*B<2 ^ 30
 len2:e.length+1<2 ^ 30
def addF(wf:BA)(f:FS)(F:MF):MF:=fun k=>if k=wf then some (f,true)else F k
def ApOut(J:Gh)(sb nb:Nat)(tl tr:Tr)(v wf:BA)(force:Bool)(F:MF)(x:Value)(K:Gh)(L':List Blk)(R':List Rw):Prop:=
 ∃f s,Gath .nil [] (Gat tr) (2*tr.size*tr.size) f/\Q3e ⟨.nil,.nil,.nil⟩ [] (ARem (some tl) (some (Q0d tl tr))) (AMod (some tl) (some (Q0d tl tr))) (ARem (some (Q0d tl tr)) (some tl)) (2*(tl.size+(Q0d tl tr).size)*(tl.size+(Q0d tl tr).size)) s/\
  ((force=false/\(∃k,cfF wf s (addF wf f F) k≠none)/\∃(m0:Nat) (ca:OA) (cc:Nat) (vs:KV) (ys:List (BA×List PE)),x=.tuple #[pn,.map (some m0),.iface 229 (.slice ca vs.length cc)]/\R'=[cfRw ca vs.length cc vs]/\L'=[(m0,[],.m [])]/\All2 (CfIs K) vs ys/\Q8v (cfF wf s (addF wf f F)) (fun _=>false) ys/\ys.length<2 ^ 30)\/
  ((force=true\/∀k,cfF wf s (addF wf f F) k=none)/\∃mr' e' t',x=.tuple #[t',.map (some mr'),.nilIface]/\R'=[]/\L'=[(mr',[],.m e')]/\VSs K v e' (updF wf s (addF wf f F))/\
   (if eqT tl (Q0d tl tr)=true then t'=pn else ∃t2,t'=pt t2/\TvIs K t2 sb nb (Q0d tl tr))))
theorem apply_s{J:Gh}{u sb nb rs rm tb1 tb2 B mr:Nat}{force:Bool}{tl tr:Tr}{v wf:BA}{e:KV}{F:MF}(hin:ApIn J u sb nb rs rm tb1 tb2 B mr tl tr v wf e F):
  Ac 76 #[pt u,pt tb1,pt tb2,.string v,.map (some mr),.string wf,.bool force] J [] [] (ApOut J sb nb tl tr v wf force F):=by
 intro M I w W S;obtain⟨vb1,x1,hb1,hc1,ha1⟩:=hin.t1;obtain⟨vb2,x2,hb2,hc2,ha2⟩:=hin.t2;have HT:Hid (∀(i:Nat) x,(Q1n vb1 nb sb)[i]?=some x->J.cell (ad tb1 i) x):=Hd fun i x h=>⟨_,_,_,hb1,rfl,by simpa using h⟩
 have HT2:Hid (∀(i:Nat) x,(Q1n vb2 nb sb)[i]?=some x->J.cell (ad tb2 i) x):=Hd fun i x h=>⟨_,_,_,hb2,rfl,by simpa using h⟩
 have HK:=Hd (nd6 hin hb2 hc1 ha1 hc2 ha2);have HC:Hid (J.cell (ad u 1) (.map none)/\J.cell (ad u 2) (.map none)/\J.cell (ad u 3) (.bool false)):=Hd ⟨⟨_,_,_,hin.u.1,rfl,rfl⟩,⟨_,_,_,hin.u.1,rfl,rfl⟩,⟨_,_,_,hin.u.1,rfl,rfl⟩⟩;clear hin hb1 hb2 hc1 hc2 ha1 ha2;simp only[Q1n]at HT HT2;go_enter func76,ntmps76;go_wp2_with fail
 refine Q0a S (recMan_s HK.out.1.u HK.out.1.t1 HK.out.1.m (fun k x h=>(by obtain⟨st,f,ap,h1,_⟩:=HK.out.1.vs.get h;exact⟨st,v,ap,h1,HK.out.1.vz⟩)) (by have:=HK.out.1.len2;unfold maxLen;omega)) ?_;rintro r5 K5 L5 R5 W' hle5 ⟨rfl,r2,rfl,rfl⟩ S2;have H5:=Hd hle5;clear S hle5;have S:=S2;clear S2;replace S:=sa S;go_wp2_with (refine X9l (sub:=(L1c vb1 nb sb)) rf rfl rfl rfl (fun i x h=>by rw[Nat.zero_add];exact(HT.out i x h).mono H5.out) S.out.inw ?_)
 have hsz1:tl.size+tr.size<2 ^ 29:=by have h1:=HK.out.1.sz;have h2:=Q1l tl;have h3:=Nat.mul_le_mul (show 1<=2*(tl.size+(tl.size+tr.size)) by omega) (Nat.le_refl (tl.size+(tl.size+tr.size)));omega
 have hcall:=mergeTop_s (J:=K5) (tb:=tb2) hsz1 HK.out.1.al HK.out.1.nl HK.out.1.nr (HK.out.2.2.2.1.mono H5.out) (HK.out.2.2.2.2.2.mono H5.out) (HK.out.2.2.1.mono H5.out) (HK.out.2.2.2.2.1.mono H5.out) (HK.out.1.u.2.s.mono H5.out) (HK.out.1.u.2.n.mono H5.out) (HK.out.1.u.2.n.mono H5.out) (H5.out _ _ HK.out.2.1);simp only[Q9e,Q1n]at hcall;refine Q0a S hcall ?_;clear hcall;rintro r6 K6 L6 R6 W' hle6 ⟨rfl,rfl,t3,vb3,val3,rfl,hb3,hc3,ha3⟩ S2;have H6:=Hd (nd4 (gT H5.out hle6) hb3 hc3 ha3);clear S hle6 hb3 hc3 ha3;have S:=S2;clear S2;replace S:=sa S;have hnone:(findK e wf).getD .nilIface=.nilIface:=by rcases HK.out.1.vs.2 wf with⟨h,_⟩|⟨st,f,ap,_,h,_⟩;(rw[h];rfl);(rw[HK.out.1.new]at h;cases h)
 go_wp2_with (first|at_lookup;refine Q6x .nilIface rfl _ _ 126 214 rfl underlying126 X8v r2 e rfl (show Q3z _ _ _ from(S.out.own (r2,[],.m e) b0f).1) wf rfl HK.out.1.wz ?_;rw[hnone]|refine X9l (sub:=(L1c vb2 nb sb)) rf rfl rfl rfl (fun i x h=>by rw[Nat.zero_add];exact(HT2.out i x h).mono H6.out.1) S.out.inw ?_)
 clear hnone;have hcall:=tofs_s (J:=K6) (vb:=vb2) (nb:=nb) (sb:=sb) (VB:=[]) (HK.out.2.2.2.2.2.mono H6.out.1) (by have:=HK.out.1.b1;have:=HK.out.1.b2;omega) (HK.out.1.u.2.s.mono H6.out.1) (HK.out.1.u.2.n.mono H6.out.1) (.inl (HK.out.2.2.2.2.1.mono H6.out.1));simp only[Q9e]at hcall;refine Q0a S hcall ?_;clear hcall;rintro r7 K7 L7 R7 W' hle7 ⟨rfl,rfl,st,fs,rfl,hfs,hG⟩ S2;have H7:=Hd (nd4 (gT H6.out.1 hle7) hfs hG hle7);clear S hle7 hfs hG;have S:=S2;clear S2;replace S:=sa S;have hin1:e.length<maxLen:=by have:=HK.out.1.len2;unfold maxLen;omega
 go_wp2_with (first|refine wlf (HC.out.1.mono H7.out.1) S ?_|refine wlf (HC.out.2.1.mono H7.out.1) S ?_|go_at_call 99;refine(Z0v (st:=st) (v:=v) (ap:=true) _ S.out.inw).mono ?_;rintro e9 W ⟨rfl,st9⟩;replace S:=Hd (S.out.call st9);clear st9;unfold vsV|refine X6y (v:=.iface 306 (Q4o st v true)) S rfl rfl rfl rfl rfl underlying126 hin1 HK.out.1.wz ?_;clear S;intro W S|go_at_call 128;refine(prune0_x _ S.out.inw).mono ?_;rintro e9 W ⟨rfl,st9⟩;replace S:=Hd (S.out.call st9);clear st9)
 have hup:UpdIn K7 u sb nb rs rm tb1 nb t3 nb B false tl (Q0d tl tr) v (insK e wf (vsV st v true)) (addF wf fs F):=by
  have hI:=HK.out.1;have hle:=H7.out.1;refine⟨hI.u.mono hle,hI.t1.mono hle,⟨vb3,val3,H7.out.2.2.2 _ _ H6.out.2.1,H6.out.2.2.1.mono H7.out.2.2.2,H6.out.2.2.2.mono H7.out.2.2.2⟩,hI.u.2.n.mono hle,hI.u.2.n.mono hle,?_,hI.al2,hI.nl,hI.nr2,hI.vz,(hI.vs.mono hle).ins H7.out.2.1 H7.out.2.2.1.ok,fun k f ap h=>?_,hI.b2,?_,Nat.lt_of_le_of_lt (Q3r _ _ _) hI.len2⟩
  ·have h1:=hI.szm;exact Nat.lt_of_le_of_lt (Nat.mul_le_mul (Nat.mul_le_mul_left 2 om) om) hI.sz
  ·unfold addF at h;split at h
   ·cases h;have h1:=H7.out.2.2.1.cnt;have h2:=hI.b1;simp only[FS.nil,FS.cnt,FS.cnt.cntC,List.length_nil]at h1;omega
   ·exact hI.b _ _ _ h
  ·exact Nat.lt_of_le_of_lt (Nat.mul_le_mul_right _ (Q3r _ _ _)) hI.len
 have hcall:=update_s (mr:=r2) (wf:=wf) (force:=force) hup;simp only[vsV]at hcall;refine Q0a S hcall ?_;clear hcall hup;rintro r8 K8 L8 R8 W' hle8 ⟨s,cb,hG3,⟨hfo,hex,ca,cc,vs,ys,rfl,rfl,rfl,hvs,hcu,hyl⟩|⟨hor,e',rfl,rfl,rfl,hv5,hcmp⟩⟩ S2
 ·have H8:=Hd (nd6 (gT H7.out.1 hle8) hG3 hfo hex hvs (And.intro hcu hyl));clear S hle8 hG3 hfo hex hvs hcu hyl;have S:=S2;clear S2;replace S:=sa S;go_wp2_with (refine X1a S rfl rfl ?_;clear S;intro m0 W S)
  refine bT ?_;exact ap H8.out.1 ⟨fs,s,H7.out.2.2.1,H8.out.2.1,.inl ⟨H8.out.2.2.1,H8.out.2.2.2.1,m0,ca,cc,vs,ys,rfl,rfl,rfl,H8.out.2.2.2.2.1,H8.out.2.2.2.2.2⟩⟩ kp
 ·have H8:=Hd (nd6 (gT H7.out.1 hle8) hG3 hor hv5 hcmp hle8);clear S hle8 hG3 hor hv5 hcmp;have S:=S2;clear S2;replace S:=sa S;have h1:Hid (K8.cell (ad u 3) (.bool false)):=Hd (HC.out.2.2.mono H8.out.1);have h2:Hid (∀(i:Nat) x,((L1c vb1 nb sb):List Value)[i]?=some x->K8.cell (ad tb1 (0+i)) x):=Hd fun i x h=>by rw[Nat.zero_add];exact(HT.out i x h).mono H8.out.1
  have h68:=Hd (gT H7.out.2.2.2 H8.out.2.2.2.2.2);have h3:Hid (∀(i:Nat) x,((L1c vb3 nb sb):List Value)[i]?=some x->K8.cell (ad t3 (0+i)) x):=Hd fun i x h=>⟨_,_,_,h68.out _ _ H6.out.2.1,rfl,by rw[Nat.zero_add];simpa[Q1n]using h⟩
  have ha1:Hid (Q0r K8 x1 tl/\K8.cell (ad vb1 0) x1):=Hd ⟨HK.out.2.2.2.1.mono H8.out.1,HK.out.2.2.1.mono H8.out.1⟩;have ha3:Hid (Q0r K8 val3 (Q0d tl tr)/\K8.cell (ad vb3 0) val3):=Hd ⟨H6.out.2.2.2.mono h68.out,H6.out.2.2.1.mono h68.out⟩;go_wp2_with fail
  refine Rg S [] [] [] [0,1,2,3,4,5,7,8,9,11,12,13] 5 fun W S=>?_;refine tk0 ?_;refine WrW [] 4 6 fun KK hKK=>?_;go_simp;refine(Q0g (Q7s _) S.out.inw).mono ?_;rintro e9 W' ⟨rfl,st9⟩;(obtain⟨al,hal⟩:∃al,al=W.heap.size:=⟨_,rfl⟩);rw[<-hal];clear hal;replace S:=Hd (S.out.call st9);clear st9;refine Hy ?_;refine WrW [] 3 10 fun KK hKK=>?_;go_simp;refine got S (Z1k (vb:=vb1) (nb:=nb) (sb:=sb)) ?_;clear S;intro W S;refine Hy ?_;refine WrW [] 2 14 fun KK hKK=>?_;go_simp;refine got S (Z1k (vb:=vb3) (nb:=nb) (sb:=sb)) ?_;clear S;intro W S;refine Hy ?_;refine WrW [16] 0 15 fun KK hKK=>?_;go_simp;refine(X0d K8 tl (Q0d tl tr) x1 val3 (ad al 0) vb1 vb3 _ S.out.inw ha1.out.1 ha3.out.1 (ha1.out.2.at S.out.inw) (ha3.out.2.at S.out.inw)).mono ?_;rintro e9 W ⟨rfl,st9⟩;replace S:=Hd (S.out.call st9);clear st9;refine Hk ?_;refine tk0 ?_;refine En ?_;cases heq:eqT tl (Q0d tl tr)
  ·go_wp2_with fail
   refine bT ?_;exact ap H8.out.1 ⟨fs,s,H7.out.2.2.1,H8.out.2.1,.inr ⟨H8.out.2.2.1,r2,e',_,rfl,rfl,rfl,H8.out.2.2.2.1,by rw[if_neg (by rw[heq];decide)];exact⟨t3,rfl,vb3,val3,h68.out _ _ H6.out.2.1,ha3.out.2,ha3.out.1⟩⟩⟩ kp
  ·go_wp2_with fail
   refine bT ?_;exact ap H8.out.1 ⟨fs,s,H7.out.2.2.1,H8.out.2.1,.inr ⟨H8.out.2.2.1,r2,e',_,rfl,rfl,rfl,H8.out.2.2.2.1,by rw[if_pos heq];rfl⟩⟩ kp
end
section
mutual
theorem X6p:∀(s:FS) (p:List PE),p∈s.all->p.length<=s.cnt
 |.mk m c,p,h=>by
  rw[FS.all,List.mem_append]at h;simp only[FS.cnt];rcases h with h|h
  ·obtain⟨e,he,rfl⟩:=mem_map.1 h;have:=List.length_pos_of_mem he;simp only[List.length_cons,List.length_nil];omega
  ·have:=X3b c p h;omega
theorem X3b:∀(c:List (PE×FS)) (p:List PE),p∈allC c->p.length<=FS.cnt.cntC c
 |[],p,h=>by simp[allC]at h
 |(e,s)::c,p,h=>by
  rw[allC,List.mem_append]at h;simp only[FS.cnt.cntC];rcases h with h|h
  ·obtain⟨q,hq,rfl⟩:=mem_map.1 h;have:=X6p s q hq;simp only[List.length_cons];omega
  ·have:=X3b c p h;omega
end
def obk(o:Option Tr)(k:BA):Nat:=match o with
 |some u=>1+k.size+u.bulk
 |none=>0
theorem Z4t:∀{m:KT} (k:BA) (t:Tr),Q0n m->Q3m (insK m k t)+obk (findK m k) k=Q3m m+(1+k.size+t.bulk)
 |[],k,t,_=>by simp[insK,findK,Q3m,obk]
 |(a,u)::m,k,t,hs=>by
  unfold insK;rw[Q0k];by_cases h1:klt a k=true
  ·have hne:a≠k:=Q7a h1;have ih:=Z4t k t (pairwise_cons.1 hs).2;simp only[h1,if_true,hne,if_false,Q3m];omega
  ·by_cases h2:a=k
   ·subst h2;simp only[if_true,Q3m,obk];simp[h1,Q3m];omega
   ·have hk:findK m k=none:=Q7q fun p hp=>Q2g ((Q5r (fun e=>h2 e.symm)).resolve_right (by rw[Bool.not_eq_true]at h1;simp[h1])) ((pairwise_cons.1 hs).1 p hp);simp only[h1,h2,if_false,Q3m,hk,obk];simp[Q3m];omega
theorem Z6e(N:Nat)(ih:∀a b:Tr,a.size<=N->a.ok->b.ok->(Q0d a b).bulk<=a.bulk+b.bulk){ma:KT}(hN:Q0p ma<=N)(ha:∀p∈ma,Tr.ok p.2):∀(out mb:KT),Q0n out->Q0n mb->(∀p∈mb,Tr.ok p.2)->(∀p∈mb,findK out p.1=findK ma p.1)->Q3m (Q1x ma out mb)<=Q3m out+Q3m mb
 |out,[],_,_,_,_=>by simp[Q1x,Q3m]
 |out,(k,x)::mb,ho,hb,hok,hf=>by
  have hc:=pairwise_cons.1 hb;have h1:=Z6e N ih hN ha (insK out k (match findK ma k with|some w=>Q0d w x|none=>x)) mb (Q2v ho _ _).1 hc.2 (fun p hp=>hok p (List.mem_cons_of_mem _ hp)) (fun p hp=>by
   rw[Q4y _ _ _ ho,if_neg (fun e=>by have:=hc.1 p hp;rw[e,Q2r]at this;cases this)];exact hf p (List.mem_cons_of_mem _ hp))
  have h2:=Z4t k (match findK ma k with|some w=>Q0d w x|none=>x) ho;rw[hf (k,x) (List.mem_cons_self ..)]at h2;simp only[Q1x,Q3m];cases hw:findK ma k with
  |none=>simp only[hw,obk]at h1 h2⊢;omega
  |some w=>
   have hm:=Q0o hw;have h3:=ih w x (Nat.le_trans (Q2s hm) hN) (ha _ hm) (hok (k,x) (List.mem_cons_self ..));simp only[hw,obk]at h1 h2⊢;omega
theorem Z8e(N:Nat):∀a b:Tr,a.size<=N->a.ok->b.ok->(Q0d a b).bulk<=a.bulk+b.bulk:=by
 induction N with
 |zero=>intro a b h;have:=Q1l a;omega
 |succ N ih=>
  intro a b hN ha hb;cases a with
  |map ma=>
   cases b with
   |map mb=>
    have:=Z6e N ih (ma:=ma) b2c (fun p hp=>ha.field hp) ma mb ha.sorted hb.sorted (fun p hp=>hb.field hp) (fun p hp=>rfl);simp only[Q0d,Tr.bulk];omega
   |_=>simp[Q0d]
  |_=>simp[Q0d]
structure Z1d(tl tr:Tr)(wf v:BA)(ms:List Mgn):Prop where
 ol:tl.ok
 or:tr.ok
 sl:tl.size<=1000
 sr:tr.size<=400
 bl:tl.bulk+tr.bulk<2 ^ 30
 al:Q2d tl tr=true
 nl:Q1i tl=true
 nr:Q1i tr=true
 vz:v.size<=maxLen
 wz:wf.size<=maxLen
 one:ms=[]\/∃m,ms=[m]/\m.name≠wf
 mfit:∀m∈ms,m.fits
 mp:∀m∈ms,plen m.ps<=2 ^ 27
section
variable{tl tr:Tr}{wf v:BA}{ms:List Mgn}{J K:Gh}{u sb nb rs rm tb1 tb2 mr:Nat}{e:KV}{F:MF}{s:C3}{f:FS}
theorem Z1d.len1(h:Z1d tl tr wf v ms):ms.length<=1:=by rcases h.one with rfl|⟨m,rfl,_⟩<;>simp
theorem Z1d.mlen(h:Z1d tl tr wf v ms):ms.length<2 ^ 30:=Nat.lt_of_le_of_lt h.len1 b0t
theorem Z1d.get(h:Z1d tl tr wf v ms){k:BA}{x:FS×Bool}(hk:mgF ms k=some x):∃m∈ms,k=m.name/\x=(FS.insAll m.ps,m.ap)/\m.name≠wf:=by
 rcases h.one with rfl|⟨m,rfl,hn⟩
 ·cases hk
 ·by_cases e:k=m.name
  ·refine⟨m,by simp,e,?_,hn⟩;simp only[mgF,List.foldl_cons,List.foldl_nil,e,if_true]at hk;exact(Option.some.inj hk).symm
  ·simp[mgF,e]at hk
theorem Z1d.apIn(h:Z1d tl tr wf v ms)(hu:UpIs J u sb nb rs rm false)(h1:TvIs J tb1 sb nb tl)(h2:TvIs J tb2 sb nb tr)(hm:J.map mr e)(hv:VSs J v e (mgF ms))(hl:e.length<=ms.length):ApIn J u sb nb rs rm tb1 tb2 (2 ^ 27) mr tl tr v wf e (mgF ms):=by
 have hx:tl.size+(tl.size+tr.size)<=2400:=by have:=h.sl;have:=h.sr;omega
 have hl1:=h.len1;refine⟨hu,h1,h2,Nat.lt_of_le_of_lt (Nat.mul_le_mul (Nat.mul_le_mul_left 2 hx) hx) b0t,size_merge _ _ _ (Nat.le_refl _) h.ol h.or,h.al,h.nl,h.nr,X5x _ _ _ (Nat.le_refl _) h.ol h.or h.al,X0z _ _ _ (Nat.le_refl _) h.ol h.or h.nl h.nr,h.vz,h.wz,hm,hv,?_,fun k f ap hk=>?_,Nat.le_trans (Nat.mul_le_mul (Nat.mul_le_mul_left 2 h.sr) h.sr) b0t,by decide,?_,?_⟩
 ·cases hk:mgF ms wf with
  |none=>rfl
  |some x=>obtain⟨m,_,e1,_,hn⟩:=h.get hk;exact absurd e1.symm hn
 ·obtain⟨m,hmm,_,e2,_⟩:=h.get hk;cases e2;exact Nat.le_trans (Z3n _) (h.mp m hmm)
 ·have:e.length+1<=2:=by omega
  exact Nat.lt_of_le_of_lt (Nat.mul_le_mul_right _ this) b0t
 ·omega
theorem updF_cnt{B:Nat}(hB:∀k f ap,F k=some (f,ap)->f.cnt<=B){k:BA}{f:FS}{ap:Bool}(h:updF wf s F k=some (f,ap)):f.cnt<=B:=by
 unfold updF Z0m at h;split at h
 ·rename_i f' ap' he
  split at h
  ·cases h
  ·cases h;exact Z2b (fun k f ap h=>Z2b hB h) he
 ·cases h
theorem updF_none{k:BA}(h:F k=none):updF wf s F k=none:=by simp[updF,Z0m,Q3w,h]
theorem sorted_le2{a b:BA}(hs:Q0n e)(h:∀p∈e,p.1=a\/p.1=b):e.length<=2:=by
 match e,hs,h with
 |[],_,_=>simp
 |[_],_,_=>simp
 |[_,_],_,_=>simp
 |x::y::z::l,hs,h=>
  exfalso;have h1:=pairwise_cons.1 hs;have h2:=pairwise_cons.1 h1.2;have hxy:=Q7a (h1.1 y b0f);have hxz:=Q7a (h1.1 z b0f);have hyz:=Q7a (h2.1 z b0f);rcases h x b0f with ex|ex<;>rcases h y b0f with ey|ey<;>rcases h z b0f with ez|ez<;>first|exact hxy (ex.trans ey.symm)|exact hxz (ex.trans ez.symm)|exact hyz (ey.trans ez.symm)
theorem Z1d.names(h:Z1d tl tr wf v ms)(hv:VSs K v e (updF wf s (addF wf f (mgF ms)))):∀p∈e,p.1=wf\/p.1=(ms.head?.map Mgn.name).getD wf:=by
 intro p hp;by_cases e1:p.1=wf
 ·exact .inl e1
 ·right;obtain⟨st,f',ap,_,h2,_⟩:=hv.get (Q3g hv.1 hp);cases hk:mgF ms p.1 with
  |none=>rw[updF_none (by simp[addF,e1,hk])]at h2;cases h2
  |some x=>
   obtain⟨m,hm,e2,_⟩:=h.get hk;rcases h.one with rfl|⟨m',rfl,_⟩
   ·cases hm
   ·rw[List.mem_singleton.1 hm]at e2;simpa using e2
theorem Z1d.addB(h:Z1d tl tr wf v ms)(hf:f.cnt<=2*tr.size*tr.size):∀k g ap,addF wf f (mgF ms) k=some (g,ap)->g.cnt<=2 ^ 27:=by
 intro k g ap hk;unfold addF at hk;split at hk
 ·cases hk;exact Nat.le_trans hf (Nat.le_trans (Nat.mul_le_mul (Nat.mul_le_mul_left 2 h.sr) h.sr) b0t)
 ·obtain⟨m,hm,_,e2,_⟩:=h.get hk;cases e2;exact Nat.le_trans (Z3n _) (h.mp m hm)
theorem Z1d.conf(h:Z1d tl tr wf v ms)(hf:f.cnt<=2*tr.size*tr.size){ys:List (BA×List PE)}(hy:Q8v (cfF wf s (addF wf f (mgF ms))) (fun _=>false) ys):∀y∈ys,y.1=(ms.head?.map Mgn.name).getD wf/\y.2.length<2 ^ 30:=by
 rintro⟨k,p⟩ hyp;obtain⟨_,c,ap,hc,hpc⟩:=(hy.2 k p).1 hyp;obtain⟨g,ap',hg,hcnt⟩:=X4p hc;have hB:=h.addB hf k g ap' hg;refine⟨?_,by have:=X6p _ _ hpc;show p.length<2 ^ 30;omega⟩;have hk:k≠wf:=by rintro rfl;simp[cfF]at hc
 have hk2:mgF ms k=some (g,ap'):=by simpa[addF,hk]using hg
 obtain⟨m,hm,e2,_⟩:=h.get hk2;rcases h.one with rfl|⟨m',rfl,_⟩
 ·cases hm
 ·rw[List.mem_singleton.1 hm]at e2;simpa using e2
end
def ApSp(sb nb:Nat)(tl tr:Tr)(v wf:BA)(force:Bool)(F:MF)(K:Gh)(L':List Blk)(R':List Rw)(t':Value)(m':Nat)(er:Value):Prop:=
 ∃f s,Gath .nil [] (Gat tr) (2*tr.size*tr.size) f/\Q3e ⟨.nil,.nil,.nil⟩ [] (ARem (some tl) (some (Q0d tl tr))) (AMod (some tl) (some (Q0d tl tr))) (ARem (some (Q0d tl tr)) (some tl)) (2*(tl.size+(Q0d tl tr).size)*(tl.size+(Q0d tl tr).size)) s/\
  ((force=false/\(∃k,cfF wf s (addF wf f F) k≠none)/\∃(ca:OA) (cc:Nat) (vs:KV) (ys:List (BA×List PE)),t'=pn/\er=.iface 229 (.slice ca vs.length cc)/\R'=[cfRw ca vs.length cc vs]/\L'=[(m',[],.m [])]/\All2 (CfIs K) vs ys/\Q8v (cfF wf s (addF wf f F)) (fun _=>false) ys/\ys.length<2 ^ 30)\/
  ((force=true\/∀k,cfF wf s (addF wf f F) k=none)/\∃e',er=.nilIface/\R'=[]/\L'=[(m',[],.m e')]/\VSs K v e' (updF wf s (addF wf f F))/\
   (if eqT tl (Q0d tl tr)=true then t'=pn else ∃t2,t'=pt t2/\TvIs K t2 sb nb (Q0d tl tr))))
variable{force:Bool}{v wf:BA}{J K:Gh}
theorem ApOut.tup{sb nb:Nat}{tl tr:Tr}{F:MF}{x:Value}{L':List Blk}{R':List Rw}(h:ApOut J sb nb tl tr v wf force F x K L' R'):∃t' m' er,x=.tuple #[t',.map (some m'),er]/\ApSp sb nb tl tr v wf force F K L' R' t' m' er:=by
 obtain⟨f,s,h1,h2,⟨h3,h4,m0,ca,cc,vs,ys,rfl,h5,h6,h7⟩|⟨h3,m',e',t',rfl,h5,h6,h7⟩⟩:=h
 ·exact⟨_,m0,_,rfl,f,s,h1,h2,.inl ⟨h3,h4,ca,cc,vs,ys,rfl,rfl,h5,h6,h7⟩⟩
 ·exact⟨t',m',_,rfl,f,s,h1,h2,.inr ⟨h3,e',rfl,h5,h6,h7⟩⟩
def Q5x(tl tr:Tr)(wf:BA)(force:Bool)(F:MF)(r:An):Prop:=
 ∃f s,Gath .nil [] (Gat tr) (2*tr.size*tr.size) f/\Q3e ⟨.nil,.nil,.nil⟩ [] (ARem (some tl) (some (Q0d tl tr))) (AMod (some tl) (some (Q0d tl tr))) (ARem (some (Q0d tl tr)) (some tl)) (2*(tl.size+(Q0d tl tr).size)*(tl.size+(Q0d tl tr).size)) s/\
  ((force=false/\(∃k,cfF wf s (addF wf f F) k≠none)/\r.ok=false/\Q8v (cfF wf s (addF wf f F)) (fun _=>false) r.cs)\/
  ((force=true\/∀k,cfF wf s (addF wf f F) k=none)/\r.ok=true/\r.cs=[]/\(if eqT tl (Q0d tl tr)=true then r.ch=false else r.ch=true/\r.live=Q0d tl tr)/\
   ∃e:KV,Q0n e/\(∀k,findK e k=none<->updF wf s (addF wf f F) k=none)/\MsOf e (updF wf s (addF wf f F)) r.ms))
structure ApiH(X0 X1:IV)(wf v:BA)(ms:List Mgn):Prop where
 pu:Z1d X0.tr X1.tr wf v ms
 bb0:X0.bulk<2 ^ 30
 bb:X1.bulk<2 ^ 30
variable{ms:List Mgn}{X0 X1:IV}
theorem ApiH.sb0(h:ApiH X0 X1 wf v ms):X0.tr.size<2 ^ 30:=Nat.lt_of_le_of_lt h.pu.sl b0t
theorem ApiH.sb1(h:ApiH X0 X1 wf v ms):X1.tr.size<2 ^ 30:=Nat.lt_of_le_of_lt h.pu.sr b0t
theorem VSs.iffN{e:KV}{G:MF}(h:VSs K v e G)(k:BA):findK e k=none<->G k=none:=by
 rcases h.2 k with⟨a,b⟩|⟨st,f,ap,a,b,_⟩
 ·simp[a,b]
 ·simp[a,b]
theorem api_s{tb ct:Nat}{x0 x1:V6}{ma:OA}{mn mc:Nat}(hs:ISch J tb)(hx0:VIs J x0 X0)(hx1:VIs J x1 X1)(hm:Q9d J v (.slice ma mn mc) ms)(hp:ApiH X0 X1 wf v ms):
  Ac 32 #[.agg (L0d tb ct nmDe x0 ma mn mc).toArray,.agg (L0a x1).toArray,.string v,.string wf,.bool force] J [] []<|N0 fun u K=>∃(a:A10) (r:An),u=a.agg/\AnIs K v a r/\Q5x X0.tr X1.tr wf force (mgF ms) r:=by
 intro M I w W S;have HS:=Hd hs;have HX:=Hd (And.intro hx0 hx1);have HM:=Hd hm;have HP:=Hd hp;clear hs hx0 hx1 hm hp;go_enter func32,ntmps32;go_wp2_with (first|refine wk ?_|refine wB ?_;clear S;(first|(fail_if_success revert y1);intro y1 W S|intro y2 W S)|refine wA ?_;clear S;intro z W S)
 have hcall:=toVer_s (x0:=x0) (ma:=ma) (mn:=mn) (mc:=mc) (ct:=ct) HS.out;refine Q0a S hcall ?_;clear hcall S;rintro r5 K5 L5 R5 W' hle5 ⟨rfl,rfl,sb,nb,rs,rm,rfl,hver⟩ S;have HV:=Hd (And.intro hver hle5);clear hver;replace S:=sa S;unfold Q2z;go_wp2_with (first|refine wk ?_|refine wn ?_;clear S;intro qv W S|refine Ws ?_;clear S;intro W S)
 have hcall:=live_s (v:=v) (tb:=tb) (ct:=ct) (ma:=ma) (mn:=mn) (mc:=mc) HV.out.1 (HX.out.1.mono HV.out.2) HP.out.bb0 HP.out.sb0 HP.out.pu.vz;unfold Q2z at hcall;refine Q0a S hcall ?_;clear hcall S;rintro r6 K6 L6 R6 W' hle6 ⟨rfl,rfl,t1,rfl,ht1⟩ S;have HL:=Hd (nd3 (gT HV.out.2 hle6) hle6 ht1);clear ht1;replace S:=sa S;go_wp2_with fail
 refine Rg S [(qv,L1t sb nb rs rm,.t 118),(y2,L0a x1,.t 35)] [] [] [0,1,2,3,5] 7 fun W S=>?_;refine Zw [] 6 4 ?_;intro KK hKK;go_simp;refine got S (Z9e (sb:=sb) (nb:=nb) (rs:=rs) (rm:=rm) (v:=v) (HV.out.1.mono HL.out.2.1) HP.out.pu.vz) ?_;clear S;intro W S;unfold Q0v;refine Yw [7,8,9,10,11] 0 6 ?_;intro KK hKK;go_simp;have hcall:=typedOf_s (J:=K6) (v:=x1) (x:=X1) (nb:=nb) (sb:=sb) (ded:=true) (HX.out.2.mono HL.out.1) HP.out.bb HP.out.sb1 (HV.out.1.s.mono HL.out.2.1) (HV.out.1.n.mono HL.out.2.1);simp only[Q0v,V6.agg]at hcall;refine Q0a S hcall ?_;clear hcall S;rintro r7 K7 L7 R7 W' hle7 ⟨rfl,rfl,t2,rfl,ht2⟩ S;have H7:=Hd (And.intro ht2 hle7);clear ht2;replace S:=sa S;refine Et ?_;have H67:=Hd (gT HL.out.2.1 H7.out.2);have HJ7:=Hd (gT HL.out.1 H7.out.2);go_wp2_with fail
 refine Rg S [(qv,L1t sb nb rs rm,.t 118),(y1,L0d tb ct nmDe x0 ma mn mc,.t 41)] [] [] [0,1,3,4,5,6,7,9,10] 10 fun W S=>?_;refine Zw [] 9 2 ?_;intro KK hKK;go_simp;have hcall:=toUp_s (J:=K7) (tb:=tb) (ct:=ct) (x0:=x0) (ma:=ma) (mn:=mn) (mc:=mc) (HV.out.1.mono H67.out);unfold Q2z at hcall;refine Q0a S hcall ?_;clear hcall S;rintro r8 K8 L8 R8 W' hle8 ⟨rfl,rfl,ub,rfl,hub⟩ S;have H8:=Hd (And.intro hub hle8);clear hub;replace S:=sa S;refine Yw [] 8 8 ?_;intro KK hKK;go_simp;have hcall:=toMgs_s (J:=K8) (HM.out.mono (gT HJ7.out H8.out.2)) HP.out.pu.mlen HP.out.pu.mfit;refine Q0a S hcall ?_;clear hcall S;rintro r9 K9 L9 R9 W' hle9 ⟨rfl,rfl,mr,e,rfl,hme,hvs,hel⟩ S;have H9:=Hd (nd4 hme hvs hel hle9);have hle78:=gT hle8 hle9;clear hme hvs hel;replace S:=sa S;refine Yw [12,13,14,15,16,17,18] 0 11 ?_;intro KK hKK;go_simp;have hcall:=apply_s (J:=K9) (u:=ub) (sb:=sb) (nb:=nb) (rs:=rs) (rm:=rm) (tb1:=t1) (tb2:=t2) (B:=2 ^ 27) (mr:=mr) (wf:=wf) (force:=force) (HP.out.pu.apIn (H8.out.1.mono H9.out.2.2.2) (HL.out.2.2.mono (gT H7.out.2 (gT H8.out.2 H9.out.2.2.2))) (H7.out.1.mono (gT H8.out.2 H9.out.2.2.2)) H9.out.1 H9.out.2.1 H9.out.2.2.1);refine Q0a S hcall ?_;clear hcall S;rintro r10 K10 L10 R10 W' hle10 hout S;obtain⟨t',m',er,rfl,hsp⟩:=hout.tup;have HO:=Hd (And.intro hsp hle10);have hle710:=gT hle78 hle10;clear hsp hout;refine Et ?_;go_wp2_with fail
 obtain⟨f,s,hG,hG3,hsp⟩:=HO.out.1;have hfc:f.cnt<=2*X1.tr.size*X1.tr.size:=by have:=hG.cnt;simpa[FS.nil,FS.cnt,FS.cnt.cntC]using this
 rcases hsp with⟨h1,h2,ca,cc,vs,ys,rfl,rfl,rfl,rfl,h3,h4,h5⟩|⟨h1,e',rfl,rfl,rfl,h3,h4⟩
 ·replace S:=Lib.front S [] [cfRw ca vs.length cc vs];simp only[cfRw,List.cons_append,List.nil_append]at S;obtain⟨K11,qa,qc,hle11,hv11,hn11,hm11,hf11,S3⟩:=S.out.rfreeze;simp only[Value.slice.injEq,true_and]at hv11;obtain⟨rfl,rfl⟩:=hv11;clear S;have S:=Hd S3;have hcf:=HP.out.pu.conf hfc h4;have hcall:=answerC_s (J:=K11) (mr:=m') (v:=v) (cc:=cc) hf11 (h3.imp fun _ _ h=>⟨h.1,h.2.mono hle11⟩) (fun y hy=>(hcf y hy).1) h5 (fun y hy=>(hcf y hy).2);refine Q0a S hcall ?_;clear hcall S S3;rintro r12 K12 L12 R12 W' hle12 ⟨rfl,rfl,a,rfl,ha⟩ S;replace S:=sa S;unfold A10.agg;go_wp2_with (refine Ws ?_;clear S;intro W S)
  refine bT ?_;exact ap (L:=[]) (gT HJ7.out (gT hle710 (gT hle11 hle12))) ⟨rfl,rfl,a,_,rfl,ha,f,s,hG,hG3,.inl ⟨h1,h2,rfl,h4⟩⟩ kp
 ·replace S:=Lib.front S [(m',[],.m e')] [];replace S:=sa S;obtain⟨K11,hle11,hm11,S3⟩:=S.out.freezeM;clear S;have S:=Hd S3;have hvs:=h3.mono hle11;have hnm:=HP.out.pu.names hvs;have hl2:=sorted_le2 hvs.1 hnm;have hB:∀k g ap,updF wf s (addF wf f (mgF ms)) k=some (g,ap)->g.cnt<2 ^ 29:=fun k g ap hk=>Nat.lt_of_le_of_lt (updF_cnt (HP.out.pu.addB hfc) hk) b0t;have hz:∀p∈e',ByteArray.size p.1<=maxLen:=fun p hp=>by
   rcases hnm p hp with e|e
   ·rw[e];exact HP.out.pu.wz
   ·rw[e];rcases HP.out.pu.one with e2|⟨m,e2,_⟩
    ·rw[e2];exact HP.out.pu.wz
    ·rw[e2];exact(HP.out.pu.mfit m (by rw[e2];simp)).n
  have hel:e'.length<2 ^ 30:=Nat.lt_of_le_of_lt hl2 b0t;by_cases heq:eqT X0.tr (Q0d X0.tr X1.tr)=true
  ·rw[if_pos heq]at h4;subst h4;have hcall:=answerN_s (J:=K11) (mr:=m') hm11 hvs hel hB hz;refine Q0a S hcall ?_;clear hcall S S3;rintro r12 K12 L12 R12 W' hle12 ⟨rfl,rfl,a,ms',rfl,ha,hms⟩ S;replace S:=sa S;unfold A10.agg;go_wp2_with (refine Ws ?_;clear S;intro W S)
   refine bT ?_;exact ap (L:=[]) (gT HJ7.out (gT hle710 (gT hle11 hle12))) ⟨rfl,rfl,a,_,rfl,ha,f,s,hG,hG3,.inr ⟨h1,rfl,rfl,by rw[if_pos heq],e',hvs.1,hvs.iffN,hms⟩⟩ kp
  ·rw[if_neg heq]at h4;obtain⟨t2',rfl,ht2'⟩:=h4;have hbm:(Q0d X0.tr X1.tr).bulk<2 ^ 30:=Nat.lt_of_le_of_lt (Z8e _ _ _ (Nat.le_refl _) HP.out.pu.ol HP.out.pu.or) HP.out.pu.bl;have hcall:=answerT_s (J:=K11) (mr:=m') (ht2'.mono hle11) hbm hm11 hvs hel hB hz;refine Q0a S hcall ?_;clear hcall S S3;rintro r12 K12 L12 R12 W' hle12 ⟨rfl,rfl,a,ms',rfl,ha,hms⟩ S;replace S:=sa S;unfold A10.agg;go_wp2_with (refine Ws ?_;clear S;intro W S)
   refine bT ?_;exact ap (L:=[]) (gT HJ7.out (gT hle710 (gT hle11 hle12))) ⟨rfl,rfl,a,_,rfl,ha,f,s,hG,hG3,.inr ⟨h1,rfl,rfl,by rw[if_neg heq];exact⟨rfl,rfl⟩,e',hvs.1,hvs.iffN,hms⟩⟩ kp
end
end Go.Proofs.YtbmklgemmjgjfaaGreat
