/- Part 41: Upd. -/
import Derived.Test.YtbmklgemmjgjfaaGreatT40
namespace Go.Proofs.YtbmklgemmjgjfaaGreat
open Go.RowKit Go.Maps Tryz
set_option linter.unusedVariables false
set_option linter.unusedSimpArgs false
set_option maxRecDepth 100000
set_option maxHeartbeats 16000000
section
structure UpdIn(J:Gh)(u sb nb rs rm tb1 n1 tb2 n2 B:Nat)(ret:Bool)(tl tr:Tr)(v:BA)(e:KV)(F:MF):Prop where
 u:UpIs J u sb nb rs rm ret
 t1:TvIs J tb1 sb n1 tl
 t2:TvIs J tb2 sb n2 tr
 n1:Nm J n1 nmDe
 n2:Nm J n2 nmDe
 sz:2*(tl.size+tr.size)*(tl.size+tr.size)<2 ^ 27
 al:Q2d tl tr=true
 nl:Q1i tl=true
 nr:Q1i tr=true
 vz:v.size<=maxLen
 vs:VSs J v e F
 b:∀k f ap,F k=some (f,ap)->f.cnt<=B
 b2:B<2 ^ 28
 len:e.length*B<2 ^ 30
 len2:e.length<2 ^ 30
def UpdOut(J:Gh)(mr:Nat)(tl tr:Tr)(v wf:BA)(force:Bool)(F:MF)(x:Value)(K:Gh)(L':List Blk)(R':List Rw):Prop:=
 ∃s cb,Q3e ⟨.nil,.nil,.nil⟩ [] (ARem (some tl) (some tr)) (AMod (some tl) (some tr)) (ARem (some tr) (some tl)) (2*(tl.size+tr.size)*(tl.size+tr.size)) s/\
  ((force=false/\(∃k,cfF wf s F k≠none)/\∃(ca:OA) (cc:Nat) (vs:KV) (ys:List (BA×List PE)),x=.tuple #[.map none,pn,.iface 229 (.slice ca vs.length cc)]/\R'=[cfRw ca vs.length cc vs]/\L'=[]/\All2 (CfIs K) vs ys/\Q8v (cfF wf s F) (fun _=>false) ys/\ys.length<2 ^ 30)\/
  ((force=true\/∀k,cfF wf s F k=none)/\∃e',x=.tuple #[.map (some mr),pt cb,.nilIface]/\R'=[]/\L'=[(mr,[],.m e')]/\VSs K v e' (updF wf s F)/\X4u K cb s))
variable{ap:Bool}{f:FS}{F:MF}{s:C3}{wf k:BA}
theorem cfF_at(h:¬k=wf)(hF:F k=some (f,ap)):cfF wf s F k=if(f.inter (s.m.union s.a)).bare then none else some (f.inter (s.m.union s.a),false):=by simp[cfF,h,hF]
theorem rmF_at(h:¬k=wf)(hF:F k=some (f,ap)):rmF wf s F k=if s.r.bare then none else some (s.r,false):=by simp[rmF,h,hF]
@[go_sem] theorem neqm200(w:World):(binOp .neq 200 (.map none) (.map none)).run prog w=.ok (.bool false) w:=by kernel_rfl
theorem zer210(w:World):(zeroValue 210).run prog w=.ok (pn) w:=by kernel_rfl
@[go_sem] theorem look199n(v:BA)(w:World):(Instr.lookup 199 (.map none) (.string v) false).run prog w=.ok .nilIface w:=by kernel_rfl
theorem z1n{P:Prop}(h:P:=by
 go_loopg [30] ec.length (fun cnt _ wr=>∃left K e1,Gh.le K3 K/\St M I K w wr [(mr,[],.m e1)] []/\Q2a wr rc rb_2 ec left cnt/\Q4r K w wr [(mr,[],.m e1)] [] rb_2/\VSs K v e1 (Q3w F (gone left (cfF wf s F)))/\e1.length+cnt<=e.length+ec.length)
 case atStart=>exact⟨_,K3,e,gR,S.out,hrg0,hap0,(HK.out.1.vs.mono (gT HV.out.1 HW.out.1)).of_eq (Z5m fun k hk=>HW.out.2.1.2.isleft k hk),by have:=HW.out.2.2.2;first|omega|(have:=HN_2.out.2.2;omega)⟩
 case round=>
  clear S hrg0 hap0;obtain⟨left,K4,e1,hle4,S0,hrg,hap,hv1,hl1⟩:=hrel;go_wp2_with (at_next;refine Q1v rfl _ rfl rc rb_2 ec left gk rfl hrg ?_ ?_;go_frame)
  ·intro h0;have hle0:left=fun _=>false:=funext h0;subst hle0;rw[X0j]at hv1;have S:=Hd S0;obtain⟨K_2,hK_2⟩:∃K,K=K4:=⟨_,rfl⟩
   obtain⟨e_2,he_2⟩:∃e,e=e1:=⟨_,rfl⟩
   rw[<-hK_2,<-he_2]at S;rw[<-hK_2,<-he_2]at hv1;rw[<-hK_2]at hle4;rw[<-he_2]at hl1;have HN_2:=Hd (nd3 hle4 hv1 (Nat.le_trans (Nat.le_add_right _ _) hl1));clear S0 hrg hap hv1 hl1 hle4 h0 hK_2 he_2;have hfin:=HFIN0.out;clear hfin;have HFIN:=Hd (nd3 (gT HFIN0.out.1 HN_2.out.1) (HFIN0.out.2.1.mono HN_2.out.1) HFIN0.out.2.2);go_wp2_with (at_range;refine Q1g rfl _ 126 214 rfl underlying126 rd er rfl ((HW.out.2.2.1.1.mono HN_2.out.1).at S.out.inw) ?_;intro w0 hrg0 hg0 hs0;have hap0:=Q4r.of_new (W':=w0) S.out b0m;replace S:=Hd (S.out.ranged hg0);obtain⟨rb_3,hrb⟩:∃rb,rb=wr.heap.size:=⟨_,rfl⟩;rw[<-hrb]at hrg0 hap0⊢;clear hg0 hs0 hrb;go_frame)
   go_loopg [32] er.length (fun cnt _ wr=>∃left K e1,Gh.le K_2 K/\St M I K w wr [(mr,[],.m e1)] []/\Q2a wr rd rb_3 er left cnt/\Q4r K w wr [(mr,[],.m e1)] [] rb_3/\VSs K v e1 (Q3w (Q3w F (cfF wf s F)) (gone left (rmF wf s F)))/\e1.length+cnt<=e.length+ec.length+er.length)
   case atStart=>exact⟨_,K_2,e_2,gR,S.out,hrg0,hap0,(HN_2.out.2.1).of_eq (Z5m fun k hk=>HW.out.2.2.1.2.isleft k hk),by have:=HW.out.2.2.2;first|omega|(have:=HN_2.out.2.2;omega)⟩
   case round=>
    clear S hrg0 hap0;obtain⟨left,K4,e1,hle4,S0,hrg,hap,hv1,hl1⟩:=hrel;go_wp2_with (at_next;refine Q1v rfl _ rfl rd rb_3 er left gk rfl hrg ?_ ?_;go_frame)
    ·intro h0;have hle0:left=fun _=>false:=funext h0;subst hle0;rw[X0j]at hv1;have S:=Hd S0;obtain⟨K_3,hK_3⟩:∃K,K=K4:=⟨_,rfl⟩
     obtain⟨e_3,he_3⟩:∃e,e=e1:=⟨_,rfl⟩
     rw[<-hK_3,<-he_3]at S;rw[<-hK_3,<-he_3]at hv1;rw[<-hK_3]at hle4;rw[<-he_3]at hl1;have HN_3:=Hd (nd3 hle4 hv1 (Nat.le_trans (Nat.le_add_right _ _) hl1));clear S0 hrg hap hv1 hl1 hle4 h0 hK_3 he_3;have HFIN1:=HFIN;clear HFIN;have HFIN:=Hd (nd3 (gT HFIN1.out.1 HN_3.out.1) (HFIN1.out.2.1.mono HN_3.out.1) HFIN1.out.2.2);clear HFIN1;go_wp2_with (at_range;have hmp:=(show Q3z wr mr e_3 from(S.out.own (mr,[],.m e_3) b0f).1);obtain⟨S7,has0⟩:=S.out.taken;clear S;have S:=Hd S7;clear S7;refine Q1g rfl _ 126 214 rfl underlying126 mr e_3 rfl hmp ?_;intro w0 hrg0 hg0 hs0;have hap0:=Q4r.of_new (W':=w0) S.out b0m;replace S:=Hd (S.out.ranged hg0);obtain⟨rb4,hrb⟩:∃rb,rb=wr.heap.size:=⟨_,rfl⟩;rw[<-hrb]at hrg0 hap0⊢;have has1:=has0.mono0 hs0;clear hg0 hs0 hrb hmp has0;go_frame)
     have hab0:Q6s M K_3 w w0 [] [] rb4:=hap0.aside;clear hap0;go_loopg [34] e_3.length (fun cnt _ wr=>∃left e4,St M I K_3 w wr [] []/\Q2a wr mr rb4 e4 left cnt/\Q6s M K_3 w wr [] [] rb4/\Q6s M K_3 w wr [] [] mr/\VSs K_3 v e4 (fun k=>if left k=true then(Q3w (Q3w F (cfF wf s F)) (rmF wf s F)) k else Z0m (Q3w (Q3w F (cfF wf s F)) (rmF wf s F)) k))
     case atStart=>exact⟨_,e_3,S.out,hrg0,hab0,has1,HN_3.out.2.1.start4⟩
     case round=>
      clear S hrg0 hab0 has1;obtain⟨left,e4,S0,hrg,hab,ham,hv4⟩:=hrel;go_wp2_with (at_next;refine Q1v rfl _ rfl mr rb4 e4 left gk rfl hrg ?_ ?_;go_frame)
      ·intro h0;have hle0:left=fun _=>false:=funext h0;subst hle0;have S:=Hd (S0.given ham hrg.owns);have hv5:VSs K_3 v e4 (updF wf s F):=hv4.of_eq fun k=>by simp[updF]
       clear S0 hrg hab ham hv4 h0;go_wp2_with fail
       exact e1g
      ·intro k0 x0 w1 cnt1 hs hl hf hrg1 hlt hg1 hs1 hen;obtain⟨st,f,ap,rfl,hFk,hst,hok⟩:=hv4.get hf;replace hFk:(Q3w (Q3w F (cfF wf s F)) (rmF wf s F)) k0=some (f,ap):=by simpa[hl]using hFk
       have S1:=S0.nextedA hab hg1;have hab1:=hab.same hs1;have ham1:=ham.same hs1;have hfc:f.cnt<2 ^ 30:=by have:=Z2b (B:=B) (fun k f ap h=>Z2b (B:=B) HK.out.1.b h) hFk;have:=HK.out.1.b2;omega
       have hlk:Hid ((findK e4 k0).getD .nilIface=.iface 306 (Q4o st v ap)):=Hd (by rw[hf];rfl);have HL:=Hd (nd6 S1 (And.intro hab1 ham1) hrg1 hv4 hlt (nd5 hl hFk hst hfc hs));have S:=Hd S1.sub;clear S0 S1 hab ham hab1 ham1 hrg hrg1 hv4 hlt hg1 hs1 hl hf hFk hst hok hfc hs;unfold vsV at*;go_wp2_with (first|at_lookup;refine Q6x .nilIface rfl _ _ 126 214 rfl underlying126 X8v mr e4 rfl HL.out.2.2.1.owns k0 rfl HL.out.2.2.2.2.2.2.2.2.2 ?_;rw[hlk.out]|go_at_call 364;refine got S (Q8q (st:=st) (v:=v) (ap:=ap)) ?_;clear S;intro W S)
       refine got S (Z3g HL.out.2.2.2.2.2.2.2.1 HL.out.2.2.2.2.2.2.2.2.1) ?_;clear S;intro W S;have hrgW:Hid (Q2a W mr rb4 e4 (fun z=>left z&&!decide (z=k0)) cnt1):=Hd (HL.out.2.2.1.kept (HL.out.2.1.2.back S.out).1 (HL.out.2.1.1.back S.out).1);have hafW:Hid (Q6s M K_3 w W [] [] rb4/\Q6s M K_3 w W [] [] mr):=Hd ⟨(HL.out.2.1.1.back S.out).2,(HL.out.2.1.2.back S.out).2⟩;have S3:=Hd (HL.out.1.back0 S.out);clear S;cases hb:f.bare
       ·go_wp2_with fail
        go_roundg cnt1
        case measure=>exact HL.out.2.2.2.2.1
        case rel=>exact⟨_,e4,S3.out,hrgW.out,hafW.out.1,hafW.out.2,HL.out.2.2.2.1.stay HL.out.2.2.2.2.2.2.1 HL.out.2.2.2.2.2.1 hb⟩
       ·go_wp2_with (at_delete;refine Z7b rfl _ _ 126 9 rfl 214 rfl underlying126 mr rb4 e4 _ cnt1 rfl hrgW.out k0 rfl HL.out.2.2.2.2.2.2.2.2.2 ?_;intro w2 cnt2 hrg2 hle2 hg2 hs2;go_frame)
        go_roundg cnt2
        case measure=>exact Nat.lt_of_le_of_lt hle2 HL.out.2.2.2.2.1
        case rel=>exact⟨_,delK e4 k0,S3.out.nextedA hafW.out.2 hg2,hrg2,hafW.out.1.same hs2,hafW.out.2.same hs2,HL.out.2.2.2.1.cut HL.out.2.2.2.2.2.2.1 HL.out.2.2.2.2.2.1 hb⟩
    ·intro k0 x0 w1 cnt1 hs hl hf hrg1 hlt hg1 hs1 hen;obtain⟨st2,c,ap2,rfl,hGk,hst2,hok2⟩:=(HW.out.2.2.1.2.mono HN_2.out.1).get hf;obtain⟨f,ap,hFk,hfc,hcc⟩:=(fun k c b h=>b1c:∀k c b,rmF wf s F k=some (c,b)->∃f ap,Q3w F (cfF wf s F) k=some (f,ap)/\f.cnt<2 ^ 28/\c.cnt<2 ^ 28) _ _ _ hGk;obtain⟨st1,hfe,hst1,hok1⟩:=hv1.at (Z7n (G:=(rmF wf s F)) hFk hl);have S1:=S0.nexted hap hg1;have hap1:Q4r K4 w w1 [(mr,[],.m e1)] [] rb_3:=⟨hap.l,hap.r,hap.j,hap.ge,by rw[hs1];exact hap.lt⟩
     have HS:=Hd (nd6 hst1 (hst2.mono hle4) hok1 hok2 hs (nd3 (show f.cnt+c.cnt<=2 ^ 30 by omega) (show e1.length<maxLen by have h1:=HK.out.1.len2;have h2:=HW.out.2.2.2;unfold maxLen;omega) hle4));have HL:=Hd (nd6 S1 hap1 hrg1 hv1 hl1 (nd4 hlt hl hGk hFk));have hlk:Hid ((findK e1 k0).getD .nilIface=.iface 306 (Q4o st1 v ap)):=Hd (by rw[hfe];rfl);have S:=Hd S1.sub;clear S0 S1 hap hap1 hrg hrg1 hv1 hl1 hlt hg1 hs1 hl hf hFk hGk hst1 hst2 hok1 hok2 hfe hs hfc hcc hle4;unfold vsV at*;go_wp2_with fail
     refine Rg S [(mr,[],.m e1)] [] [18] [0,1,2,3,4,6,9,10,11,13,14,15] 7 fun W S=>?_;refine tk26 ?_;refine Wr [] 6 5 fun KK hKK=>?_;go_simp;refine got S (Q8q (st:=st1) (v:=v) (ap:=ap)) ?_;clear S;intro W S;refine Yw [] 5 7 ?_;intro KK hKK;go_simp;refine got S (Q8q (st:=st2) (v:=v) (ap:=ap2)) ?_;clear S;intro W S;refine Yw [] 4 8 ?_;intro KK hKK;go_simp;refine Q0a S (diff_x HS.out.1 HS.out.2.1 HS.out.2.2.2.2.2.1) ?_;rintro r7 K7 L7 R7 W' hle7 ⟨rfl,rfl,db,rfl,hdb⟩ S2;have HD:=Hd (And.intro hdb hle7);clear S hdb;have S:=S2;clear S2;replace S:=sa S;refine Yw [] 3 12 ?_;intro KK hKK;go_simp;refine got S (Q9n (st:=st1) (v:=v) (ap:=ap)) ?_;clear S;intro W S;refine Yw [] 2 16 ?_;intro KK hKK;go_simp;refine got S (X4a (st:=st1) (v:=v) (ap:=ap)) ?_;clear S;intro W S;refine Yw [] 1 17 ?_;intro KK hKK;go_simp;refine got S (Z0v (st:=db) (v:=v) (ap:=ap)) ?_;clear S;intro W S;unfold vsV;refine Hy ?_;refine Cl 18 fun KK hKK=>?_;refine Z5j (v:=.iface 306 (Q4o db v ap)) S rfl rfl rfl rfl underlying126 HS.out.2.2.2.2.2.2.1 HS.out.2.2.2.2.1 ?_;clear S;intro W S;refine hKK.out _ _ (NoPanic.normal ?_);clear hKK KK;go_wp2_with fail
     go_roundg cnt1
     case measure=>exact HL.out.2.2.2.2.2.1
     case rel=>
      exact e0c
  ·intro k0 x0 w1 cnt1 hs hl hf hrg1 hlt hg1 hs1 hen;obtain⟨st2,c,ap2,rfl,hGk,hst2,hok2⟩:=(HW.out.2.1.2).get hf;obtain⟨f,ap,hFk,hfc,hcc⟩:=(fun k c b h=>b1o:∀k c b,cfF wf s F k=some (c,b)->∃f ap,F k=some (f,ap)/\f.cnt<2 ^ 28/\c.cnt<2 ^ 28) _ _ _ hGk;obtain⟨st1,hfe,hst1,hok1⟩:=hv1.at (Z7n (G:=(cfF wf s F)) hFk hl);have S1:=S0.nexted hap hg1;have hap1:Q4r K4 w w1 [(mr,[],.m e1)] [] rb_2:=⟨hap.l,hap.r,hap.j,hap.ge,by rw[hs1];exact hap.lt⟩
   have HS:=Hd (nd6 hst1 (hst2.mono hle4) hok1 hok2 hs (nd3 (show f.cnt+c.cnt<=2 ^ 30 by omega) (show e1.length<maxLen by have h1:=HK.out.1.len2;have h2:=HW.out.2.2.2;unfold maxLen;omega) hle4));have HL:=Hd (nd6 S1 hap1 hrg1 hv1 hl1 (nd4 hlt hl hGk hFk));have hlk:Hid ((findK e1 k0).getD .nilIface=.iface 306 (Q4o st1 v ap)):=Hd (by rw[hfe];rfl);have S:=Hd S1.sub;clear S0 S1 hap hap1 hrg hrg1 hv1 hl1 hlt hg1 hs1 hl hf hFk hGk hst1 hst2 hok1 hok2 hfe hs hfc hcc hle4;unfold vsV at*;go_wp2_with fail
   refine Rg S [(mr,[],.m e1)] [] [18] [0,1,2,3,4,6,9,10,11,13,14,15] 7 fun W S=>?_;refine tk26 ?_;refine Wr [] 6 5 fun KK hKK=>?_;go_simp;refine got S (Q8q (st:=st1) (v:=v) (ap:=ap)) ?_;clear S;intro W S;refine Yw [] 5 7 ?_;intro KK hKK;go_simp;refine got S (Q8q (st:=st2) (v:=v) (ap:=ap2)) ?_;clear S;intro W S;refine Yw [] 4 8 ?_;intro KK hKK;go_simp;refine Q0a S (diff_x HS.out.1 HS.out.2.1 HS.out.2.2.2.2.2.1) ?_;rintro r7 K7 L7 R7 W' hle7 ⟨rfl,rfl,db,rfl,hdb⟩ S2;have HD:=Hd (And.intro hdb hle7);clear S hdb;have S:=S2;clear S2;replace S:=sa S;refine Yw [] 3 12 ?_;intro KK hKK;go_simp;refine got S (Q9n (st:=st1) (v:=v) (ap:=ap)) ?_;clear S;intro W S;refine Yw [] 2 16 ?_;intro KK hKK;go_simp;refine got S (X4a (st:=st1) (v:=v) (ap:=ap)) ?_;clear S;intro W S;refine Yw [] 1 17 ?_;intro KK hKK;go_simp;refine got S (Z0v (st:=db) (v:=v) (ap:=ap)) ?_;clear S;intro W S;unfold vsV;refine Hy ?_;refine Cl 18 fun KK hKK=>?_;refine Z5j (v:=.iface 306 (Q4o db v ap)) S rfl rfl rfl rfl underlying126 HS.out.2.2.2.2.2.2.1 HS.out.2.2.2.2.1 ?_;clear S;intro W S;refine hKK.out _ _ (NoPanic.normal ?_);clear hKK KK;go_wp2_with fail
   go_roundg cnt1
   case measure=>exact HL.out.2.2.2.2.2.1
   case rel=>
    exact e0d):P:=h
theorem update_s{J:Gh}{u sb nb rs rm tb1 n1 tb2 n2 B mr:Nat}{ret force:Bool}{tl tr:Tr}{v:BA}{e:KV}(hin:UpdIn J u sb nb rs rm tb1 n1 tb2 n2 B ret tl tr v e F):
  Ac 98 #[pt u,pt tb1,pt tb2,.string v,.map (some mr),.string wf,.bool force] J [(mr,[],.m e)] [] (UpdOut J mr tl tr v wf force F):=by
 intro M I w W S;obtain⟨vb1,x1,hb1,hc1,ha1⟩:=hin.t1;obtain⟨vb2,x2,hb2,hc2,ha2⟩:=hin.t2;have HT:Hid (∀(i:Nat) x,(Q1n vb1 n1 sb)[i]?=some x->J.cell (ad tb1 i) x):=Hd fun i x h=>⟨_,_,_,hb1,rfl,by simpa using h⟩
 have HK:=Hd (nd6 hin hb2 hc1 ha1 hc2 ha2);have HC:Hid (J.cell (ad u 1) (.map none)/\J.cell (ad u 2) (.map none)):=Hd ⟨⟨_,_,_,hin.u.1,rfl,rfl⟩,⟨_,_,_,hin.u.1,rfl,rfl⟩⟩;clear hin hb1 hb2 hc1 hc2 ha1 ha2;simp only[Q1n]at HT;go_enter func98,ntmps98;go_wp2_with (first|refine X1a S rfl rfl ?_;clear S;(first|(fail_if_success revert rc);intro rc W S|(fail_if_success revert rd);intro rd W S|intro rv W S)|refine X9l (sub:=(L1c vb1 n1 sb)) rf rfl rfl rfl (fun i x h=>by rw[Nat.zero_add];exact HT.out i x h) S.out.inw ?_)
 have hsz27:2*(tl.size+tr.size)*(tl.size+tr.size)<2 ^ 29:=by have:=HK.out.1.sz;omega
 have hcall:=cmpTop_s (tb:=tb2) hsz27 HK.out.1.al HK.out.1.nl HK.out.1.nr HK.out.2.2.2.1 HK.out.2.2.2.2.2 HK.out.2.2.1 HK.out.2.2.2.2.1 HK.out.1.u.2.s HK.out.1.n1 HK.out.1.n2 HK.out.2.1;simp only[Q9e,Q1n]at hcall;refine Q0a S hcall ?_;clear hcall hsz27;rintro r5 K5 L5 R5 W' hle5 ⟨rfl,rfl,cb,s,rfl,hcmp,hG⟩ S2;obtain⟨rmb,mdb,adb,hcb,hrm,hmd,had⟩:=hcmp;have HG:=Hd (nd6 hle5 hG hrm hmd had hcb);have HX:Hid (K5.cell (ad cb 0) (pt rmb)/\K5.cell (ad cb 1) (pt mdb)/\K5.cell (ad cb 2) (pt adb)):=Hd ⟨⟨_,_,_,hcb,rfl,rfl⟩,⟨_,_,_,hcb,rfl,rfl⟩,⟨_,_,_,hcb,rfl,rfl⟩⟩;have HB:Hid (s.r.cnt<2 ^ 27/\s.m.cnt<2 ^ 27/\s.a.cnt<2 ^ 27):=Hd (by have h1:=hG.r.cnt;have h2:=hG.m.cnt;have h3:=hG.a.cnt;have h4:=HK.out.1.sz;simp only[FS.nil,FS.cnt,FS.cnt.cntC,List.length_nil]at h1 h2 h3;omega);have HO:Hid (s.r.ok/\s.m.ok/\s.a.ok):=Hd ⟨hG.r.ok,hG.m.ok,hG.a.ok⟩;clear S hcb hrm hmd had hG;have S:=S2;clear S2;replace S:=sa S;go_wp2_with (first|refine X1a S rfl rfl ?_;clear S;intro rv W S|refine wlf (HC.out.1.mono HG.out.1) S ?_|refine wlf (HC.out.2.mono HG.out.1) S ?_|go_at_call 153;refine got S (filter_x) ?_;clear S;intro W S|refine wl_ins S rfl rfl rfl rfl rfl underlying300 b0t HK.out.1.vz ?_;clear S;intro W S;replace S:=(show Hid (St M I K5 w W ((rv,[],.m [(v,pt cb)])::_) _)from S)|at_range;replace S:=Lib.front S [(rv,[],.m [(v,pt cb)])] [];replace S:=sa S;obtain⟨K6,hle6,hvm,S6⟩:=S.out.freezeM;have hmp:=(show Q3z W mr e from(S.out.own (mr,[],.m e) b0f).1);clear S;replace S6:=Lib.front (Hd S6) [(mr,[],.m e)] [];simp only[List.cons_append,List.nil_append]at S6;obtain⟨S7,has0⟩:=S6.out.taken;clear S6;have S:=Hd S7;clear S7;refine Q1g rfl _ 126 214 rfl underlying126 mr e rfl hmp ?_;intro w0 hrg0 hg0 hs0;have hap0:=Q4r.of_new (W':=w0) S.out b0m;replace S:=Hd (S.out.ranged hg0);obtain⟨rb,hrb⟩:∃rb,rb=W.heap.size:=⟨_,rfl⟩;rw[<-hrb]at hrg0 hap0⊢;have has1:=has0.mono0 hs0;clear hg0 hs0 hrb hmp has0;go_frame)
 have HV:=Hd (nd3 (gT HG.out.1 hle6) hle6 hvm);have hab0:Q6s M K6 w w0 [(rd,[],.m []),(rc,[],.m [])] [] rb:=hap0.aside;clear hle6 hvm hap0;go_loopg [22] e.length (fun cnt _ wr=>∃left K ec er,K6.le K/\St M I K w wr [(rd,[],.m er),(rc,[],.m ec)] []/\Q2a wr mr rb e left cnt/\Q6s M K w wr [(rd,[],.m er),(rc,[],.m ec)] [] rb/\Q6s M K w wr [(rd,[],.m er),(rc,[],.m ec)] [] mr/\VSs K v ec (gone left (cfF wf s F))/\VSs K v er (gone left (rmF wf s F))/\ec.length+cnt<=e.length/\er.length+cnt<=e.length)
 case atStart=>exact⟨_,K6,[],[],gR,S.out,hrg0,hab0,has1,.nil _ _ (HK.out.1.vs.start fun k h=>cfF_none h),.nil _ _ (HK.out.1.vs.start fun k h=>rmF_none h),by simp,by simp⟩
 case round=>
  clear S hrg0 hab0 has1;obtain⟨left,K1,ec,er,hle1,S0,hrg,hab,ham,hvc,hvr,hlc,hlr⟩:=hrel;go_wp2_with (at_next;refine Q1v rfl _ rfl mr rb e left gk rfl hrg ?_ ?_;go_frame)
  ·intro h0;have hle0:left=fun _=>false:=funext h0;subst hle0;have hvc2:=HK.out.1.vs;clear hvc2;rw[X0j]at hvc hvr;have S:=Lib.front (Hd (S0.given ham hrg.owns)) [(rd,[],.m er)] [];replace S:=sa S;obtain⟨K2,hle2,hrm2,S2⟩:=S.out.freezeM;clear S;have S:=Lib.front (Hd S2) [(rc,[],.m ec)] [];replace S:=sa S;clear S2;obtain⟨K3,hle3,hcm2,S2⟩:=S.out.freezeM;clear S;have S:=Hd S2;have HW:=Hd (nd5 (gT hle1 (gT hle2 hle3)) (And.intro hcm2 (hvc.mono (gT hle2 hle3))) (And.intro (hrm2.mono hle3) (hvr.mono (gT hle2 hle3))) (Nat.le_trans (Nat.le_add_right _ _) hlc) (Nat.le_trans (Nat.le_add_right _ _) hlr));clear S2 S0 hrg hab ham hvc hvr hlc hlr hle1 hle2 hle3 hrm2 hcm2 h0;cases force
   ·by_cases hec:ec.length=0
    ·have hall:∀k,cfF wf s F k=none:=fun k=>(by rcases HW.out.2.1.2.2 k with⟨_,h⟩|⟨st,f,ap,h,_⟩<;>first|exact h|(rw[List.eq_nil_of_length_eq_zero hec]at h;cases h))
     have HFIN0:=Hd (nd3 (gT HV.out.1 HW.out.1) (show X4u K3 cb s from⟨rmb,mdb,adb,(gT HV.out.2.1 HW.out.1) _ _ HG.out.2.2.2.2.2,(HG.out.2.2.1.mono HV.out.2.1).mono HW.out.1,(HG.out.2.2.2.1.mono HV.out.2.1).mono HW.out.1,(HG.out.2.2.2.2.1.mono HV.out.2.1).mono HW.out.1⟩) (show false=true\/∀k,cfF wf s F k=none from .inr hall));clear hall;go_wp2_with (first|refine wl_lenM rf rfl rfl ((HW.out.2.1.1).at S.out.inw) underlying126 ?_;rw[hec]|at_range;refine Q1g rfl _ 126 214 rfl underlying126 rc ec rfl ((HW.out.2.1.1).at S.out.inw) ?_;intro w0 hrg0 hg0 hs0;have hap0:=Q4r.of_new (W':=w0) S.out b0m;replace S:=Hd (S.out.ranged hg0);obtain⟨rb_2,hrb⟩:∃rb,rb=wr.heap.size:=⟨_,rfl⟩;rw[<-hrb]at hrg0 hap0⊢;clear hg0 hs0 hrb;go_frame)
     exact z1n
    ·go_wp2_with (first|refine wl_lenM rf rfl rfl ((HW.out.2.1.1).at S.out.inw) underlying126 ?_|go_at_call 155;refine Q0a S (cfm_s (B:=B) HW.out.2.1.1 HW.out.2.1.2 (fun k f ap h=>(by obtain⟨f',ap',h1,h2⟩:=X4p h;have h3:=HK.out.1.b _ _ _ h1;omega)) (by have:=HK.out.1.b2;omega) (Nat.lt_of_le_of_lt (Nat.mul_le_mul_right _ HW.out.2.2.2.1) HK.out.1.len)) ?_;rintro r7 K7 L7 R7 W' hle7 ⟨rfl,ca,cc,vs,ys,rfl,rfl,hvs,hup,hyl⟩ S2;have HY:=Hd (nd4 hvs hup hyl hle7);clear S hvs hup hyl hle7;have S:=S2;clear S2;replace S:=sa S)
     refine bT ?_;have hex:∃k,cfF wf s F k≠none:=(by cases hc:ec with|nil=>rw[hc]at hec;exact absurd rfl hec|cons p0 ec0=>obtain⟨st,f,ap,_,h,_⟩:=HW.out.2.1.2.get (k:=p0.1) (x:=p0.2) (by rw[hc,Q0k,if_pos rfl]);exact⟨p0.1,by rw[h];exact Option.some_ne_none _⟩)
     exact ap (gT (gT HV.out.1 HW.out.1) HY.out.2.2.2) ⟨s,cb,HG.out.2.1,.inl ⟨rfl,hex,ca,cc,vs,ys,rfl,rfl,rfl,HY.out.1,HY.out.2.1,Nat.lt_of_le_of_lt HY.out.2.2.1 (Nat.lt_of_le_of_lt (Nat.mul_le_mul_right _ HW.out.2.2.2.1) HK.out.1.len)⟩⟩ kp
   ·have HFIN0:=Hd (nd3 (gT HV.out.1 HW.out.1) (show X4u K3 cb s from⟨rmb,mdb,adb,(gT HV.out.2.1 HW.out.1) _ _ HG.out.2.2.2.2.2,(HG.out.2.2.1.mono HV.out.2.1).mono HW.out.1,(HG.out.2.2.2.1.mono HV.out.2.1).mono HW.out.1,(HG.out.2.2.2.2.1.mono HV.out.2.1).mono HW.out.1⟩) (show true=true\/∀k,cfF wf s F k=none from .inl rfl));go_wp2_with (at_range;refine Q1g rfl _ 126 214 rfl underlying126 rc ec rfl ((HW.out.2.1.1).at S.out.inw) ?_;intro w0 hrg0 hg0 hs0;have hap0:=Q4r.of_new (W':=w0) S.out b0m;replace S:=Hd (S.out.ranged hg0);obtain⟨rb_2,hrb⟩:∃rb,rb=wr.heap.size:=⟨_,rfl⟩;rw[<-hrb]at hrg0 hap0⊢;clear hg0 hs0 hrb;go_frame)
    exact z1n
  ·intro k0 x0 w1 cnt1 hs hl hf hrg1 hlt hg1 hs1 hen;obtain⟨st,f,ap,rfl,hFk,hst,hok⟩:=HK.out.1.vs.get hf;have S1:=S0.nextedA hab hg1;have HL:=Hd (nd6 (nd3 S1 (hab.same hs1) (ham.same hs1)) hrg1 (And.intro hvc hvr) (And.intro hlc hlr) hlt (And.intro hl hFk));have HS:=Hd (nd5 (hst.mono (gT HV.out.1 hle1)) hok (HK.out.1.b _ _ _ hFk) hs hle1);have S:=Hd S1.sub;clear S0 S1 hab ham hrg hrg1 hvc hvr hlc hlr hlt hg1 hs1 hl hf hFk hst hok hle1;unfold vsV at*;by_cases hwf:k0=wf
   ·subst hwf;go_wp2_with fail
    go_roundg cnt1
    case measure=>exact HL.out.2.2.2.2.1
    case rel=>
     obtain⟨⟨S1,hab,ham⟩,hrg1,⟨hvc,hvr⟩,⟨hlc,hlr⟩,hlt,hl,hFk⟩:=HL.out;exact⟨_,K1,ec,er,HS.out.2.2.2.2,S1,hrg1,hab,ham,hvc.of_eq (Q8b (by simp[cfF]) hl),hvr.of_eq (Q8b (by simp[rmF]) hl),by omega,by omega⟩
   ·have hne:(k0.toList==wf.toList)=false:=by have:=Q6p k0 wf;unfold seq at this;rw[this];exact decide_eq_false hwf
    have hk61:=Hd HS.out.2.2.2.2;have hx1:Hid (K1.cell (ad cb 1) (pt mdb)):=Hd ((HX.out.2.1.mono HV.out.2.1).mono hk61.out);have hx2:Hid (K1.cell (ad cb 2) (pt adb)):=Hd ((HX.out.2.2.mono HV.out.2.1).mono hk61.out);go_wp2_with (first|go_at_call 362;refine got S (Q9n (st:=st) (v:=v) (ap:=ap)) ?_;clear S;intro W S|at_lookup;refine X2y (pn) rfl _ _ 300 210 rfl underlying300 zer210 rv [(v,pt cb)] rfl ((HV.out.2.2.mono hk61.out).at S.out.inw) v rfl HK.out.1.vz ?_;simp only[Q0k,if_true,Option.getD_some,Option.isSome_some])
    refine Rg S [] [] [] [0,2,3,4,5,6,7,8,9] 4 fun W S=>?_;refine tk27 ?_;refine Wr [] 3 1 fun KK hKK=>?_;go_simp;refine got S (Q8q (st:=st) (v:=v) (ap:=ap)) ?_;clear S;intro W S;refine Yw [] 2 10 ?_;intro KK hKK;go_simp;refine Q0a S (union_x ((HG.out.2.2.2.1.mono HV.out.2.1).mono hk61.out) ((HG.out.2.2.2.2.1.mono HV.out.2.1).mono hk61.out) b2i) ?_;rintro r7 K7 L7 R7 W' hle7 ⟨rfl,rfl,ub,rfl,hub⟩ S2;have HU:=Hd (And.intro hub hle7);clear S hub;have S:=S2;clear S2;replace S:=sa S;refine Yw [12] 0 11 ?_;intro KK hKK;go_simp;refine Q0a S (inter_x (HS.out.1.mono HU.out.2) HU.out.1 (by have h1:=HB.out;have h2:=HS.out.2.2.1;have h3:=HK.out.1.b2;have h4:=X3e s.m s.a;omega)) ?_;rintro r8 K8 L8 R8 W' hle8 ⟨rfl,rfl,ib,rfl,hib⟩ S2;have hle18:=gT hle7 hle8;have HI:=Hd (And.intro hib hle18);clear S hib;have S:=S2;clear S2;replace S:=sa S;refine Hk ?_;refine tk27 ?_;refine En ?_;clear hle7 hle18 hx1 hx2;have hx0:Hid (K8.cell (ad cb 0) (pt rmb)):=Hd (((HX.out.1.mono HV.out.2.1).mono hk61.out).mono HI.out.2);have HR:Hid (FSI K8 rmb s.r):=Hd (((HG.out.2.2.1.mono HV.out.2.1).mono hk61.out).mono HI.out.2);have hcfn:=cfF_at (wf:=wf) (s:=s) hwf HL.out.2.2.2.2.2.2;have hrmn:=rmF_at (wf:=wf) (s:=s) hwf HL.out.2.2.2.2.2.2;go_wp2_with fail
    refine(Z3g HI.out.1 (by have h1:=Z2h f (s.m.union s.a);have h2:=HS.out.2.2.1;have h3:=HK.out.1.b2;omega) _ S.out.inw).mono ?_;rintro e9 W ⟨rfl,st9⟩;replace S:=Hd (S.out.call st9);clear st9;cases hbare:(f.inter (s.m.union s.a)).bare
    ·rw[hbare]at hcfn;have hnc:ec.length<maxLen:=by have h1:=HL.out.2.2.2.1.1;have h2:=HK.out.1.len2;unfold maxLen;omega
     have hnr:er.length<maxLen:=by have h1:=HL.out.2.2.2.1.2;have h2:=HK.out.1.len2;unfold maxLen;omega
     go_wp2_with (first|go_at_call 362;refine(Q9n (st:=st) (v:=v) (ap:=ap) _ S.out.inw).mono ?_;rintro e9 W ⟨rfl,st9⟩;replace S:=Hd (S.out.call st9);clear st9|go_at_call 99;refine(Z0v (st:=ib) (v:=v) (ap:=false) _ S.out.inw).mono ?_;rintro e9 W ⟨rfl,st9⟩;replace S:=Hd (S.out.call st9);clear st9;unfold vsV|replace S:=Lib.front S [(rc,[],.m ec)] [];replace S:=sa S;refine X6y (v:=.iface 306 (Q4o ib v false)) S rfl rfl rfl rfl rfl underlying126 hnc HS.out.2.2.2.1 ?_;clear S;intro W S|refine wlf hx0.out S ?_)
     refine(Z3g HR.out (by have h1:=HB.out;omega) _ S.out.inw).mono ?_;rintro e9 W ⟨rfl,st9⟩;replace S:=Hd (S.out.call st9);clear st9;cases hrb:s.r.bare
     ·rw[hrb]at hrmn;go_wp2_with fail
      refine Rg S [] [] [] [0,1,2,3,4,5,6] 3 fun W S=>?_;refine tk28 ?_;refine Wr [] 2 7 fun KK hKK=>?_;go_simp;refine got S (Q9n (st:=st) (v:=v) (ap:=ap)) ?_;clear S;intro W S;refine Yw [] 1 8 ?_;intro KK hKK;go_simp;refine got S (Z0v (st:=rmb) (v:=v) (ap:=false)) ?_;clear S;intro W S;unfold vsV;refine Yw [] 0 9 ?_;intro KK hKK;replace S:=Lib.front S [(rd,[],.m er)] [];replace S:=sa S;refine Z5j (v:=.iface 306 (Q4o rmb v false)) S rfl rfl rfl rfl underlying126 hnr HS.out.2.2.2.1 ?_;clear S;intro W S;refine Ey ?_;go_wp2_with fail
      go_roundg cnt1
      case measure=>exact HL.out.2.2.2.2.1
      case rel=>
       obtain⟨⟨S1,hab,ham⟩,hrg1,⟨hvc,hvr⟩,⟨hlc,hlr⟩,hlt,hl,hFk⟩:=HL.out;have T:St (Mine [(rd,[],.m er),(rc,[],.m ec)] []) K1 K8 w1 W [(rd,[],.m (insK er k0 (.iface 306 (Q4o rmb v false)))),(rc,[],.m (insK ec k0 (.iface 306 (Q4o ib v false))))] []:=keep S;exact⟨_,K8,(insK ec k0 (.iface 306 (Q4o ib v false))),(insK er k0 (.iface 306 (Q4o rmb v false))),gT HS.out.2.2.2.2 HI.out.2,S1.back0 T,hrg1.kept (ham.back T).1 (hab.back T).1,(hab.back T).2,(ham.back T).2,((hvc.mono HI.out.2).ins HI.out.1 (Z2g HS.out.2.1 (Q9s HO.out.2.1 HO.out.2.2))).of_eq (Z1z hcfn),((hvr.mono HI.out.2).ins HR.out HO.out.1).of_eq (Z1z hrmn),Nat.le_trans (Nat.add_le_add_right (Q3r _ _ _) _) om,Nat.le_trans (Nat.add_le_add_right (Q3r _ _ _) _) om⟩
     ·rw[hrb]at hrmn;go_wp2_with fail
      go_roundg cnt1
      case measure=>exact HL.out.2.2.2.2.1
      case rel=>
       obtain⟨⟨S1,hab,ham⟩,hrg1,⟨hvc,hvr⟩,⟨hlc,hlr⟩,hlt,hl,hFk⟩:=HL.out;have T:St (Mine [(rd,[],.m er),(rc,[],.m ec)] []) K1 K8 w1 W [(rd,[],.m er),(rc,[],.m (insK ec k0 (.iface 306 (Q4o ib v false))))] []:=keep S;exact⟨_,K8,(insK ec k0 (.iface 306 (Q4o ib v false))),er,gT HS.out.2.2.2.2 HI.out.2,S1.back0 T,hrg1.kept (ham.back T).1 (hab.back T).1,(hab.back T).2,(ham.back T).2,((hvc.mono HI.out.2).ins HI.out.1 (Z2g HS.out.2.1 (Q9s HO.out.2.1 HO.out.2.2))).of_eq (Z1z hcfn),(hvr.mono HI.out.2).of_eq (Q8b hrmn hl),Nat.le_trans (Nat.add_le_add_right (Q3r _ _ _) _) om,by omega⟩
    ·rw[hbare]at hcfn;have hnc:ec.length<maxLen:=by have h1:=HL.out.2.2.2.1.1;have h2:=HK.out.1.len2;unfold maxLen;omega
     have hnr:er.length<maxLen:=by have h1:=HL.out.2.2.2.1.2;have h2:=HK.out.1.len2;unfold maxLen;omega
     go_wp2_with (refine wlf hx0.out S ?_)
     refine(Z3g HR.out (by have h1:=HB.out;omega) _ S.out.inw).mono ?_;rintro e9 W ⟨rfl,st9⟩;replace S:=Hd (S.out.call st9);clear st9;cases hrb:s.r.bare
     ·rw[hrb]at hrmn;go_wp2_with fail
      refine Rg S [] [] [] [0,1,2,3,4,5,6] 3 fun W S=>?_;refine tk28 ?_;refine Wr [] 2 7 fun KK hKK=>?_;go_simp;refine got S (Q9n (st:=st) (v:=v) (ap:=ap)) ?_;clear S;intro W S;refine Yw [] 1 8 ?_;intro KK hKK;go_simp;refine got S (Z0v (st:=rmb) (v:=v) (ap:=false)) ?_;clear S;intro W S;unfold vsV;refine Yw [] 0 9 ?_;intro KK hKK;replace S:=Lib.front S [(rd,[],.m er)] [];replace S:=sa S;refine Z5j (v:=.iface 306 (Q4o rmb v false)) S rfl rfl rfl rfl underlying126 hnr HS.out.2.2.2.1 ?_;clear S;intro W S;refine Ey ?_;go_wp2_with fail
      go_roundg cnt1
      case measure=>exact HL.out.2.2.2.2.1
      case rel=>
       obtain⟨⟨S1,hab,ham⟩,hrg1,⟨hvc,hvr⟩,⟨hlc,hlr⟩,hlt,hl,hFk⟩:=HL.out;have T:St (Mine [(rd,[],.m er),(rc,[],.m ec)] []) K1 K8 w1 W [(rd,[],.m (insK er k0 (.iface 306 (Q4o rmb v false)))),(rc,[],.m ec)] []:=keep S;exact⟨_,K8,ec,(insK er k0 (.iface 306 (Q4o rmb v false))),gT HS.out.2.2.2.2 HI.out.2,S1.back0 T,hrg1.kept (ham.back T).1 (hab.back T).1,(hab.back T).2,(ham.back T).2,(hvc.mono HI.out.2).of_eq (Q8b hcfn hl),((hvr.mono HI.out.2).ins HR.out HO.out.1).of_eq (Z1z hrmn),by omega,Nat.le_trans (Nat.add_le_add_right (Q3r _ _ _) _) om⟩
     ·rw[hrb]at hrmn;go_wp2_with fail
      go_roundg cnt1
      case measure=>exact HL.out.2.2.2.2.1
      case rel=>
       obtain⟨⟨S1,hab,ham⟩,hrg1,⟨hvc,hvr⟩,⟨hlc,hlr⟩,hlt,hl,hFk⟩:=HL.out;have T:St (Mine [(rd,[],.m er),(rc,[],.m ec)] []) K1 K8 w1 W [(rd,[],.m er),(rc,[],.m ec)] []:=keep S;exact⟨_,K8,ec,er,gT HS.out.2.2.2.2 HI.out.2,S1.back0 T,hrg1.kept (ham.back T).1 (hab.back T).1,(hab.back T).2,(ham.back T).2,(hvc.mono HI.out.2).of_eq (Q8b hcfn hl),(hvr.mono HI.out.2).of_eq (Q8b hrmn hl),by omega,by omega⟩
end
end Go.Proofs.YtbmklgemmjgjfaaGreat
