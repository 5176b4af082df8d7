/- Part 40: Rmf, Cfl, Upk, Upf. -/
import Derived.Test.YtbmklgemmjgjfaaGreatT36
import Derived.Test.YtbmklgemmjgjfaaGreatT39
namespace Go.Proofs.YtbmklgemmjgjfaaGreat
open List (cons_append mem_cons_self mem_map nil_append)
open Go.RowKit Go.Maps Tryz
set_option linter.unusedVariables false
set_option linter.unusedSimpArgs false
set_option maxRecDepth 100000
set_option maxHeartbeats 16000000
variable{J:Gh}
section
def UpIs(J:Gh)(u sb nb rs rm:Nat)(ret:Bool):Prop:=J u=some (.cells #[.iface 118 (Q2z sb nb rs rm),.map none,.map none,.bool ret] 222 (0,0))/\Z5n J sb nb rs rm
variable{ret:Bool}{u sb nb rs rm tb:Nat}
theorem UpIs.mono{K:Gh}(h:UpIs J u sb nb rs rm ret)(l:J.le K):UpIs K u sb nb rs rm ret:=⟨l _ _ h.1,h.2.mono l⟩
def VsAll(e:KV):Prop:=∀k v,findK e k=some v->∃st vv ap,v=vsV st vv ap/\vv.size<=maxLen
variable{e:KV}
theorem find_round{e2:KV}{left:BA->Bool}{s:BA}{v:Value}(hse:Q0n e2)(hfe:∀k,findK e2 k=if left k=true then none else findK e k)(hf:findK e s=some v)(k:BA):findK (insK e2 s v) k=if(left k&&!decide (k=s))=true then none else findK e k:=by
 rw[Q4y _ _ _ hse];by_cases h:k=s
 ·subst h;simp[hf]
 ·simp[h,hfe k]
variable{t:Tr}
theorem recq{st:Nat}(h:Z5n J sb nb rs rm)(ht:TvIs J tb sb nb t):Ac 150 #[pt st,pt tb] J [] [] fun u K L' R'=>K=J/\u=.tuple #[pn,.nilIface]/\L'=[]/\R'=[]:=by
 obtain⟨vb,v,h1,_⟩:=ht;exact recTop_s h.s h.n h1
theorem recMan_s{mr:Nat}(hu:UpIs J u sb nb rs rm ret)(ht:TvIs J tb sb nb t)(hm:J.map mr e)(hv:VsAll e)(hlen:e.length<maxLen):
  Ac 97 #[pt u,pt tb,.map (some mr)] J [] [] fun x K L' R'=>R'=[]/\∃r2,x=.tuple #[.map (some r2),.nilIface]/\L'=[(r2,[],.m e)]:=by
 intro M I w W S;have HU:=Hd (nd5 hu.2 ht hv hlen hm.sorted);have HM:=Hd hm;have hc0:J.cell (ad u 0) (.iface 118 (Q2z sb nb rs rm)):=⟨_,_,_,hu.1,rfl,rfl⟩
 have HC:=Hd hc0;clear hu ht hv hlen hm hc0;go_enter func97,ntmps97;go_wp2_with (first|refine X1a S rfl rfl ?_;clear S;intro r2 W S|at_range;refine Q1g rfl _ 126 214 rfl underlying126 mr e rfl (HM.out.at S.out.inw) ?_;intro w0 hrg0 hg0 hs0;have hap0:=Q4r.of_new (W':=w0) S.out b0m;replace S:=Hd (S.out.ranged hg0);obtain⟨rb,hrb⟩:∃rb,rb=W.heap.size:=⟨_,rfl⟩;rw[<-hrb]at hrg0 hap0⊢;clear hg0 hs0 hrb;go_frame)
 go_loopg [9] e.length (fun cnt _ wr=>∃left K e2,J.le K/\St M I K w wr [(r2,[],.m e2)] []/\Q2a wr mr rb e left cnt/\Q4r K w wr [(r2,[],.m e2)] [] rb/\Q0n e2/\(∀k,findK e2 k=if left k=true then none else findK e k)/\e2.length+cnt<=e.length)
 case atStart=>
  refine⟨_,J,[],gR,S.out,hrg0,hap0,List.Pairwise.nil,fun k=>?_,by simp⟩;cases findK e k<;>rfl
 case round=>
  clear S hrg0 hap0;obtain⟨left,K1,e2,hle1,S0,hrg,hap,hse,hfe,hln⟩:=hrel;go_wp2_with (at_next;refine Q1v rfl _ rfl mr rb e left gk rfl hrg ?_ ?_;go_frame)
  ·intro h0;have he:e2=e:=Z7i hse HU.out.2.2.2.2 fun k=>by rw[hfe k,h0 k];rfl
   subst he;clear hrg hap hfe hse hln h0;have S:=Hd S0;go_wp2_with fail
   refine bT ?_;exact ap hle1 ⟨rfl,r2,rfl,rfl⟩ S0
  ·intro s v w1 cnt1 hs hl hf hrg1 hlt hg1 hs1 hen;obtain⟨st,vv,ap,rfl,hvv⟩:=HU.out.2.2.1 s v hf;have S1:=S0.nexted hap hg1;have hap1:Q4r K1 w w1 [(r2,[],.m e2)] [] rb:=⟨hap.l,hap.r,hap.j,hap.ge,by rw[hs1];exact hap.lt⟩
   have HL:=Hd (nd6 S1 hap1 hrg1 hse hfe (nd4 hln hlt hl hf));have S:=Hd S1.sub;have hcv:K1.cell (ad u 0) (.iface 118 (Q2z sb nb rs rm)):=HC.out.mono hle1;clear S0 S1 hap hap1 hrg hrg1 hse hfe hln hlt hg1 hs1 hl hf;have hnn:e2.length<maxLen:=by have:=HL.out.2.2.2.2.2.1;have:=HL.out.2.2.2.2.2.2.1;have:=HU.out.2.2.2.1;omega
   have hsz:=hs;unfold vsV at*;unfold Q2z at hcv;go_wp2_with fail
   refine Rg S [] [] [] [0,1,2,3,4,5,7,8] 7 fun W S=>?_;refine tk10 ?_;refine Wr [] 6 6 fun KK hKK=>?_;go_simp;refine got S (Q9n (st:=st) (v:=vv) (ap:=ap)) ?_;clear S;intro W S;refine Yw [10,11,12,13,14] 0 9 ?_;intro KK hKK;go_simp;refine Q0a S (convert_s (HU.out.1.mono hle1) (HU.out.2.1.mono hle1) hvv) ?_;rintro r5 K5 L5 R5 W' hle5 ⟨rfl,rfl,t2,rfl,ht2⟩ S2;have HT2:=Hd (And.intro ht2 hle5);clear S ht2;have S:=S2;clear S2;replace S:=sa S;refine Hk ?_;refine tk10 ?_;refine En ?_;have hcv2:K5.cell (ad u 0) (.iface 118 (Q2z sb nb rs rm)):=hcv.mono HT2.out.2;go_wp2_with (first|refine wlf hcv2 S ?_|go_at_call 318;refine(isMiss_x (sb:=sb) (nb:=nb) (rs:=rs) (rm:=rm) _ S.out.inw).mono ?_;rintro e W ⟨rfl,st⟩;replace S:=Hd (S.out.call st);clear st|go_at_call 364;refine(Q8q (st:=st) (v:=vv) (ap:=ap) _ S.out.inw).mono ?_;rintro e W ⟨rfl,st⟩;replace S:=Hd (S.out.call st);clear st|go_at_call 150;refine Q0a S (recq (HU.out.1.mono (gT hle1 HT2.out.2)) HT2.out.1) ?_;rintro r6 K6 L6 R6 W6 hle6 ⟨hKJ,rfl,rfl,rfl⟩ S2;have hJK:=hKJ.symm;subst hJK;clear S;have S:=S2;clear S2;simp only[cons_append,nil_append,List.append_nil]at S|refine X6y S rfl rfl rfl rfl rfl underlying126 hnn hsz ?_;clear S;intro W S)
   go_roundg cnt1
   case measure=>exact HL.out.2.2.2.2.2.2.1
   case rel=>
    obtain⟨S1,hap1,hrg1,hse,hfe,hln,hlt,hl,hf⟩:=HL.out;have T:=S.out;exact⟨_,_,_,gT hle1 HT2.out.2,S1.back0 T,hrg1.kept ((HM.out.mono hle1).keep S1.inw T) (hap1.back T).1,(hap1.back T).2,(Q2v hse _ _).1,find_round hse hfe hf,Nat.le_trans (Nat.add_le_add_right (Q3r _ _ _) _) om⟩
end
section
theorem run_copy0{P:Program}(w:World)(dT sT ty elem:TypeId)(k:Nat)(dp sp:OA)(dl dc sc:Nat)(hu:P.underlying dT=some (.slice elem))(hs:(P.info? elem).map (·.size)=some k):
  (Builtin.copy_ #[dT,sT] ty #[.slice dp dl dc,.slice sp 0 sc]).run P w=.ok (goInt 0) w:=by
 cases hq:P.info? elem with
 |none=>simp[hq]at hs
 |some i=>
  have hi:i.size=k:=by simpa[hq]using hs
  have hlo:∀ad,(loadCells ad 0).run P w=.ok #[] w:=fun ad=>run_loadCells_list w ad [] b0f;cases sp<;>cases dp<;>simp[Builtin.copy_,run_underlying hu,Builtin.lenOf,Builtin.firstCells,sizeOf,typeInfo,hq,hi,hlo,storeCells]
section
variable{P:Program}{M:Nat->Prop}{I J:Gh}{w W:World}{L:List Blk}{R:List Rw}{g n c size:Nat}{e:TypeId}{xs ys:List Value}{ops:Array Oper}{rest:List Oper}{o:Oper}{a:Act}{Q:EAW}
theorem wl_full{t e:TypeId}{l c:Operand}{z:Value}{n y m:Nat}(S:Hid (St M I J w W L R))(hg:o.guard=none)(ho:o.op=Op.makeSlice t l c)(ht:P.underlying t=some (.slice e))(hi:Inf P e z n y)(hl:a.eval l=.int .i64 (m:Nat))(hc:a.eval c=.int .i64 (m:Nat))(h2:y*m<=281474976710656)(h3:m<=maxLen)
  (h:∀b W',Hid (St M I J w W' L (⟨.slice (some (ad b 0)) m m,e,n,m,(madeCells z.cells (m*n)).toList⟩::R))->wpList P ops Q rest (a.put o.dst (.slice (some (ad b 0)) m m)) W'):wpList P ops Q (o::rest) a W:=by
 obtain⟨i,g1,g2,g3,g4⟩:=hi.parts;exact wpList_make_full W hg l c t ho 0 e i z n ht g1 g2 g3 .i64 .i64 _ _ m hl hc rfl rfl (by rw[g4];exact h2) h3 (Nat.zero_le _) fun w' k1 k2=>h _ w' (S.out.made k1 k2 fun g hg=>by cases hg;rfl)
theorem wl_copyR{d s:Operand}{dT sT:TypeId}{A:OA}{sc:Nat}(S:Hid (St M I J w W L (⟨.slice (some (ad g 0)) n c,e,size,n,xs⟩::R)))(hw:o.guard=none)
  (ho:o.op=.call {callee:=.builtin .copy,args:=#[d,s],argTypes:=#[dT,sT]})(hu:P.underlying dT=some (.slice e))(hs1:(P.info? e).map (·.size)=some size)
  (hd:a.eval d=.slice (some (ad g 0)) n c)(hs:a.eval s=.slice A n sc)(hr:Q4n W W.heap.size size A n ys)(h1:∀u∈ys,u.oneCell'=true)
  (h:∀W',Hid (St M I J w W' L (⟨.slice (some (ad g 0)) n c,e,size,n,ys⟩::R))->wpList P ops Q rest (a.put o.dst (goInt n)) W'):wpList P ops Q (o::rest) a W:=Q0l (Q0b hw _) fun _ hK=>by
 obtain⟨cur,hg,hc,ht,hnc⟩:=S.out.rcur;by_cases h0:n=0
 ·subst h0;have hrun:=run_copy0 (P:=P) W dT sT o.type e size (some (ad g 0)) A 0 c sc hu hs1;have e1:xs=ys:=by
   have a1:=hr.1;rw[Nat.zero_mul]at a1 ht;rw[List.eq_nil_of_length_eq_zero a1,<-ht];rfl
  have:=hK _ W (h W (e1▸S));exact e0e
 ·obtain⟨ad,rfl,_,hcs⟩:=hr.2 om;have hl:=hr.1;have hcn:n*size<=c*size:=Nat.mul_le_mul_right _ hnc;have hrun:=Q4g (P:=P) W dT sT o.type e g 0 n c ad n sc cur e ys n size hu hs1 hg (by show n=min n n;omega) hl hcs om h1;have S2:=S.out.rset hg (cur.toList.take 0++ys++cur.toList.drop (0+ys.length)) (by simp only[List.length_append,List.length_take,List.length_drop,Array.length_toList];omega);have e1:(cur.toList.take 0++ys++cur.toList.drop (0+ys.length)).take (n*size)=ys:=by
   rw[List.take_zero,nil_append];exact List.take_left' hl
  rw[e1]at S2;have:=hK _ _ (h _ (Hd S2));exact e0e
end
variable{K:Gh}
theorem pcopy_s{A:OA}{n c:Nat}{bs:List Nat}(hn:n<2 ^ 30):Ac 216 #[.slice A n c] J [] [pathRw A n c bs] fun u K L' R'=>K=J/\L'=[]/\∃q,u=.slice (some (ad q 0)) n n/\R'=[pathRw (some (ad q 0)) n n bs,pathRw A n c bs]:=by
 intro M I w W S;have HN:=Hd hn;clear hn;unfold pathRw at*;go_enter func216,ntmps216;go_wp2_with (first|refine wl_full (t:=251) (e:=358) (m:=n) S rfl rf underlying251 Q4v rf rf (by have:=HN.out;omega) (by have:=HN.out;unfold maxLen;omega) ?_;clear S;intro q W S|refine wl_copyR (ys:=bs.flatMap Q0i) S rfl rfl underlying251 kr rfl rfl ((S.out.rows _ (List.mem_cons_of_mem _ (mem_cons_self ..))).1 |> Q4n.of_own) Z7k ?_;clear S;intro W S)
 refine bT ?_;exact ap gR ⟨rfl,rfl,q,rfl,rfl⟩ kp
def PthIs(K:Gh)(v:Value)(p:List PE):Prop:=∃(a:OA) (c:Nat) (bs:List Nat),v=.slice a p.length c/\p.length<=c/\c<=maxLen/\All2 (Nm K) bs p/\Q0u K a (bs.flatMap Q0i)
theorem PthIs.mono{v:Value}{p:List PE}(h:PthIs J v p)(l:J.le K):PthIs K v p:=by
 obtain⟨a,c,bs,h1,h2,h3,h4,h5⟩:=h;exact⟨a,c,bs,h1,h2,h3,h4.imp fun _ _ k=>k.mono l,h5.mono l⟩
def CfIs(K:Gh)(x:BA×Value)(y:BA×List PE):Prop:=x.1=y.1/\PthIs K x.2 y.2
def Q2w(x:BA×Value):List Value:=[.string x.1,x.2]
abbrev cfRw(ca:OA)(n cc:Nat)(vs:KV):Rw:=⟨.slice ca n cc,327,2,n,vs.flatMap Q2w⟩
def CfInv(bc bm:Nat)(k:BA)(pre:List (BA×List PE))(done:List (List PE))(K:Gh)(L:List Blk)(R:List Rw):Prop:=
 ∃(ca:OA) (cc:Nat) (vs:KV),L=[(bc,[.slice ca vs.length cc],.t 228),(bm,[.string k],.t 9)]/\R=[cfRw ca vs.length cc vs]/\All2 (CfIs K) vs (pre++done.map fun p=>(k,p))
theorem call215(args:Array Value)(w:World):(callFunc 215 args).run prog w=.ok (.enter 215 args) w:=by simp[go_sem,Go.MuLone.run_callFunc_enter func215 kr rfl]
variable{v k:BA}
theorem cfl_f{bc bm:Nat}{pre:List (BA×List PE)}(hpre:pre.length<2 ^ 31):X9j 215 #[pt bc,pt bm] (CfInv bc bm k pre):=by
 intro K L R done p pa pc bs hI hbs hp hd M I w W S;obtain⟨ca,cc,vs,rfl,rfl,hvs⟩:=hI;have hvl:vs.length+1<2 ^ 32:=by have:=hvs.length;simp only[List.length_append,List.length_map]at this;omega
 have HI:=Hd (nd5 hvs hbs hp hvl trivial);clear hvs hbs hd hvl;simp only[cfRw,pathRw,List.size_toArray,cons_append,nil_append]at*;go_enter func215,ntmps215;refine Rg S [(bc,[.slice ca vs.length cc],.t 228),(bm,[.string k],.t 9)] [] [7] [0,1,2] 5 fun W S=>?_;refine Zw [4] 3 3 ?_;intro KK hKK;go_simp;refine Q0a S (pcopy_s (A:=pa) (n:=p.length) (c:=pc) (bs:=bs) HI.out.2.2.1) ?_;rintro r5 K5 L5 R5 W' hle5 ⟨hKJ,rfl,q,rfl,rfl⟩ S2;have hJK:=hKJ.symm;subst hJK;clear S;simp only[cons_append,nil_append,List.append_nil,pathRw]at S2;obtain⟨K2,qa,qc,hle2,hv2,hn2,hm2,hf2,S3⟩:=S2.out.rfreeze;have e2:qa=some (ad q 0)/\qc=p.length:=b1k
 obtain⟨rfl,rfl⟩:=e2;have HQ:=Hd (nd3 hle2 hm2 hf2);clear S2 hv2 hn2 hm2 hf2;have S:=Hd S3;clear S3;refine Tw [] 2 5 ?_;intro KK hKK;refine Q1s S rfl underlying228 rfl ?_;clear S;intro y W S;refine Yw [] 1 6 ?_;intro KK hKK;replace S:=Lib.front S [] [⟨.slice ca vs.length cc,327,2,vs.length,vs.flatMap Q2w⟩];replace S:=sa S;refine Q1m S rfl rfl rfl underlying228 in327 rfl HI.out.2.2.2.1 ?_;clear S;intro A1 c1 W S;refine Hy ?_;refine Cl 7 fun KK hKK=>?_;refine Q0j (v:=.slice A1 (vs.length+1) c1) S rfl rfl rfl rfl ?_;clear S;intro W S;refine hKK.out _ _ (NoPanic.normal ?_);clear hKK KK;refine bodyPost_end (results_none rfl _ _ _) rfl ?_;refine ap (R:=[⟨.slice pa p.length pc,358,4,p.length,bs.flatMap Q0i⟩,⟨.slice A1 (vs.length+1) c1,327,2,vs.length+1,vs.flatMap Q2w++[.string k,.slice (some (ad q 0)) p.length p.length]⟩]) (L:=[(bc,[.slice A1 (vs.length+1) c1],.t 228),(bm,[.string k],.t 9)]) HQ.out.1 ⟨rfl,_,rfl,A1,c1,vs++[(k,.slice (some (ad q 0)) p.length p.length)],by simp,by simp[Q2w],?_⟩ kp;rw[List.map_append,<-List.append_assoc];exact Q1e (HI.out.1.imp fun _ _ h=>⟨h.1,h.2.mono HQ.out.1⟩) ⟨rfl,_,_,bs,rfl,Nat.le_refl _,HQ.out.2.1,HI.out.2.1.imp fun _ _ h=>h.mono HQ.out.1,HQ.out.2.2⟩
def VSs(J:Gh)(v:BA)(e:KV)(F:BA->Option (FS×Bool)):Prop:=Q0n e/\∀k,(findK e k=none/\F k=none)\/∃st f ap,findK e k=some (vsV st v ap)/\F k=some (f,ap)/\FSI J st f/\f.ok
variable{F:BA->Option (FS×Bool)}{e:KV}
theorem VSs.mono(h:VSs J v e F)(l:J.le K):VSs K v e F:=
 ⟨h.1,fun k=>(h.2 k).imp id fun⟨st,f,ap,a,b,c,d⟩=>⟨st,f,ap,a,b,c.mono l,d⟩⟩
theorem VSs.get(h:VSs J v e F){x:Value}(hx:findK e k=some x):∃st f ap,x=vsV st v ap/\F k=some (f,ap)/\FSI J st f/\f.ok:=by
 rcases h.2 k with⟨h1,_⟩|⟨st,f,ap,a,b,c,d⟩
 ·rw[hx]at h1;cases h1
 ·rw[hx]at a;cases a;exact⟨st,f,ap,rfl,b,c,d⟩
def Q8v(F:BA->Option (FS×Bool))(left:BA->Bool)(ys:List (BA×List PE)):Prop:=ys.Nodup/\∀k p,(k,p)∈ys<->left k=false/\∃f ap,F k=some (f,ap)/\p∈f.all
theorem Q8v.start(h:VSs J v e F):Q8v F (fun s=>(findK e s).isSome) []:=by
 refine⟨List.nodup_nil,fun k p=>?_⟩;simp only[List.not_mem_nil,false_iff,not_and,not_exists];intro h1 f ap h2;rcases h.2 k with⟨_,h3⟩|⟨st,f,ap,h3,_⟩
 ·rw[h3]at h2;cases h2
 ·rw[h3]at h1;cases h1
theorem Q8v.next{left:BA->Bool}{ys:List (BA×List PE)}{s:BA}{f:FS}{ap:Bool}(h:Q8v F left ys)(hk:f.ok)(hF:F s=some (f,ap))(hl:left s=true):Q8v F (fun z=>left z&&!decide (z=s)) (ys++f.all.map fun p=>(s,p)):=by
 refine⟨List.nodup_append.2 ⟨h.1,(List.Pairwise.map _ (fun a b (h:a≠b)=>by simpa using h) (X2p hk)),fun x hx y hy e=>?_⟩,fun k p=>?_⟩
 ·subst e;obtain⟨p,_,rfl⟩:=mem_map.1 hy;have:=((h.2 s p).1 hx).1;rw[hl]at this;cases this
 rw[List.mem_append,h.2 k p,mem_map];by_cases hk:k=s
 ·subst hk;simp only[hl,decide_true,Bool.not_true,Bool.and_false,true_and,Bool.true_eq_false,false_and,false_or,Prod.mk.injEq,exists_eq_right];exact⟨fun hp=>⟨f,ap,hF,hp⟩,fun⟨f',ap',h1,h2⟩=>by rw[hF]at h1;cases h1;exact h2⟩
 ·simp only[hk,decide_false,Bool.not_false,Bool.and_true,Prod.mk.injEq];exact⟨fun h=>h.elim id fun⟨a,_,b,_⟩=>absurd b.symm hk,.inl⟩
theorem cfm_s{mr B:Nat}(hm:J.map mr e)(hv:VSs J v e F)(hB:∀k f ap,F k=some (f,ap)->f.cnt<=B)(hB2:B<2 ^ 29)(hlen:e.length*B<2 ^ 30):
  Ac 155 #[.map (some mr)] J [] [] fun x K L' R'=>L'=[]/\∃(ca:OA) (cc:Nat) (vs:KV) (ys:List (BA×List PE)),x=.slice ca vs.length cc/\R'=[cfRw ca vs.length cc vs]/\All2 (CfIs K) vs ys/\Q8v F (fun _=>false) ys/\ys.length<=e.length*B:=by
 intro M I w W S;have HM:=Hd hm;have HU:=Hd (nd4 hv hB hB2 hlen);clear hm hv hB hB2 hlen;go_enter func155,ntmps155;go_wp2_with (first|refine Q0q (t:=228) (e:=327) S (Q0b rf _) rf underlying228 kr 2 ?_;clear S;(try clear W);intro y W S|refine wn ?_;clear S;intro bc W S|refine Ws ?_;clear S;intro W S|at_range;refine Q1g rfl _ 126 214 rfl underlying126 mr e rfl (HM.out.at S.out.inw) ?_;intro w0 hrg0 hg0 hs0;have hap0:=Q4r.of_new (W':=w0) S.out b0m;replace S:=Hd (S.out.ranged hg0);obtain⟨rb,hrb⟩:∃rb,rb=W.heap.size:=⟨_,rfl⟩;rw[<-hrb]at hrg0 hap0⊢;clear hg0 hs0 hrb;go_frame)
 go_loopg [5] e.length (fun cnt _ wr=>∃left K ca cc vs ys,J.le K/\St M I K w wr [(bc,[.slice ca vs.length cc],.t 228)] [cfRw ca vs.length cc vs]/\Q2a wr mr rb e left cnt/\Q4r K w wr [(bc,[.slice ca vs.length cc],.t 228)] [cfRw ca vs.length cc vs] rb/\All2 (CfIs K) vs ys/\Q8v F left ys/\ys.length+cnt*B<=e.length*B)
 case atStart=>exact⟨_,J,some (ad y 0),0,[],[],gR,S.out,hrg0,hap0,.nil,.start HU.out.1,by simp⟩
 case round=>
  clear S hrg0 hap0;obtain⟨left,K1,ca,cc,vs,ys,hle1,S0,hrg,hap,hvs,hup,hln⟩:=hrel;go_wp2_with (at_next;refine Q1v rfl _ rfl mr rb e left gk rfl hrg ?_ ?_;go_frame)
  ·intro h0;have hl0:left=fun _=>false:=funext h0;subst hl0;clear hrg hap h0;have S:=Hd S0;have HC:=Hd (nd3 hvs hup hln);clear S0 hvs hup hln;go_wp2_with (refine wk ?_)
   refine bT ?_;exact ap (L:=[]) hle1 ⟨rfl,ca,cc,vs,ys,rfl,rfl,HC.out.1,HC.out.2.1,Nat.le_trans (Nat.le_add_right _ _) HC.out.2.2⟩ kp
  ·intro s v w1 cnt1 hs hl hf hrg1 hlt hg1 hs1 hen;obtain⟨st,f,ap,rfl,hFk,hst,hok⟩:=HU.out.1.get hf;have S1:=S0.nexted hap hg1;have hap1:Q4r K1 w w1 [(bc,[.slice ca vs.length cc],.t 228)] [cfRw ca vs.length cc vs] rb:=⟨hap.l,hap.r,hap.j,hap.ge,by rw[hs1];exact hap.lt⟩
   have hcb:=HU.out.2.1 _ _ _ hFk;have hyl:ys.length+f.cnt+cnt1*B<=e.length*B:=by
    have h1:(cnt1+1)*B<=gk*B:=Nat.mul_le_mul_right _ hlt;rw[Nat.add_mul,Nat.one_mul]at h1;omega
   have HL:=Hd (nd6 S1 hap1 hrg1 hvs hup (nd4 hyl hlt hl hFk));have S:=Hd S1.sub;have HS:=Hd (nd4 (hst.mono hle1) (show f.cnt<2 ^ 29 by have:=HU.out.2.2.1;omega) (show ys.length<2 ^ 31 by have:=HU.out.2.2.2;omega) hok);clear S0 S1 hap hap1 hrg hrg1 hvs hup hln hlt hg1 hs1 hl hf hFk hst hok hcb hyl;unfold vsV at*;go_wp2_with (first|refine wn ?_;clear S;intro bm W S|refine Ws ?_;clear S;intro W S|go_at_call 364;refine got S (Q8q (st:=st) (v:=v) (ap:=ap)) ?_;clear S;intro W S)
   have hit:=X3g (F:=215) (caps:=#[pt bc,pt bm]) (K:=K1) (L:=[(bc,[.slice ca vs.length cc],.t 228),(bm,[.string s],.t 9)]) (R:=[cfRw ca vs.length cc vs]) call215 (cfl_f (bc:=bc) (bm:=bm) (k:=s) HS.out.2.2.1) ⟨ca,cc,vs,rfl,rfl,by simpa using HL.out.2.2.2.1⟩ HS.out.1 HS.out.2.1;simp only[cfRw]at hit S;refine Q0a S hit ?_;clear hit;rintro r5 K5 L5 R5 W' hle5 ⟨rfl,ca5,cc5,vs5,rfl,rfl,hvs5⟩ S2;clear S;have S:=S2;clear S2;replace S:=sa S;go_wp2_with fail
   go_roundg cnt1
   case measure=>exact HL.out.2.2.2.2.2.2.1
   case rel=>
    obtain⟨S1,hap1,hrg1,hvs,hup,hyl,hlt,hl,hFk⟩:=HL.out;have T:St (Mine [(bc,[.slice ca vs.length cc],.t 228)] [cfRw ca vs.length cc vs]) K1 K5 w1 W' [(bc,[.slice ca5 vs5.length cc5],.t 228)] [cfRw ca5 vs5.length cc5 vs5]:=keep S;exact⟨_,K5,ca5,cc5,vs5,_,gT hle1 hle5,S1.back0 T,hrg1.kept ((HM.out.mono hle1).keep S1.inw T) (hap1.back T).1,(hap1.back T).2,hvs5,hup.next HS.out.2.2.2 hFk hl,by have:=all_len f;simp only[List.length_append,List.length_map];omega⟩
end
section
theorem key133:keyOf prog 133=keyOf prog 9:=by
 funext v;cases v<;>simp[keyOf,underlying9,underlying133,mapKey]
theorem own133{w:World}{r n:Nat}{D:DataW Value}:w.ownsMap prog 133 RV r n D<->w.ownsMap prog 9 RV r n D:=by
 have e1:∀x,Go.WideElems.rd prog 133 RV x=Go.WideElems.rd prog 9 RV x:=fun x=>by simp[Go.WideElems.rd,key133]
 have e2:Go.WideElems.rg prog 133 RV=Go.WideElems.rg prog 9 RV:=funext fun x=>by simp[Go.WideElems.rg,e1]
 constructor
 ·rintro⟨es,clock,h1,⟨f1,f2,f3⟩,h3,h4⟩;exact⟨es,clock,h1,⟨f1,f2,fun x hx=>by rw[<-e1];exact f3 x hx⟩,h3,by rw[<-e2];exact h4⟩
 ·rintro⟨es,clock,h1,⟨f1,f2,f3⟩,h3,h4⟩;exact⟨es,clock,h1,⟨f1,f2,fun x hx=>by rw[e1];exact f3 x hx⟩,h3,by rw[e2];exact h4⟩
theorem key133s{s:BA}(hs:s.size<=maxLen):keyOf prog 133 (.string s)=some (klit s):=by rw[key133];exact key9 hs
theorem law133:Keyed prog 133:=string_keyed underlying133
section
variable{M:Nat->Prop}{I J:Gh}{w W W':World}{L L':List Blk}{R R':List Rw}{r g:Nat}{e e':KV}{cs:List Value}{ops:Array Oper}{rest:List Oper}{o:Oper}{a:Act}{Q:EAW}{K:AW}{T el:TypeId}{m x y:Operand}{s:BA}{v z:Value}
theorem wl_ins(S:Hid (St M I J w W ((r,cs,.m e)::L) R))(hg:o.guard=none)(ho:o.op=.insert T m x y)(hm:a.eval m=.map (some r))(hx:a.eval x=.string s)(hy:a.eval y=v)(ht:prog.underlying T=some (.map 133 el))(hn:e.length<maxLen)(hs:s.size<=maxLen)
  (h:∀W',Hid (St M I J w W' ((r,cs,.m (insK e s v))::L) R)->wpList prog ops Q rest (a.put o.dst undef) W'):wpList prog ops Q (o::rest) a W:=by
 refine wpList_plain hg fun K' hK'=>?_;obtain⟨w',hrun,r1,r2⟩:=World.ownsMap.update (own133.2 (show W.ownsMap prog 9 RV r e.length (DM e)from(S.out.own _ (mem_cons_self ..)).1)) law133 ht hn (key133s hs) (d:=.held v) (ps:=[]) rfl;rw[DM_put S.out.sorted]at r1;unfold Oper.wp;simp[execOp,ho,hm,hx,hy,hrun,Result.andThen];exact hK' _ _ (h w' (S.out.turnmap (Z5p (own133.1 r1)) r2))
theorem X2y(z:Value)(hg:o.guard=none)(m x:Operand)(t e:TypeId)(hop:o.op=Op.lookup t m x true)(ht:prog.underlying t=some (.map 133 e))
  (hz:∀w:World,(zeroValue e).run prog w=.ok z w)(r:Nat)(M:KV)(hm:a.eval m=.map (some r))(hown:Q3z W r M)
  (s:BA)(hx:a.eval x=.string s)(hs:s.size<=maxLen)
  (hK:wpList prog ops Q rest (a.put o.dst (.tuple #[(findK M s).getD z,.bool (findK M s).isSome])) W):wpList prog ops Q (o::rest) a W:=by
 refine wpList_lookup_own_ok W hg m x t hop 133 e law133 ht RV (hz W) (.held z) [] rfl r M.length (DM M) hm (own133.2 hown) (.string s) (klit s) hx (key133s hs) fun v ps hv=>?_;have e1:v=(findK M s).getD z:=by
  have h1:DataW.held v=(DM M).atKey (klit s) (.held z):=by simpa[RV]using congrArg (Option.map Prod.fst) hv
  exact e0o
 rw[X9i,e1];exact hK
theorem y_look(z:Value)(hg:o.guard=none){t e:TypeId}(hop:o.op=.lookup t m x false)(ht:prog.underlying t=some (.map 9 e))(hz:∀w:World,(zeroValue e).run prog w=.ok z w)
  {M:KV}(hm:a.eval m=.map (some r))(hmem:(r,cs,.m M)∈L)(hx:a.eval x=.string s)(hs:s.size<=maxLen)(hv:(findK M s).getD z=v):YieldsIf prog ops (Vw J L R) o v a:=
 y_at (Q0b hg _) fun W hW=>by
  obtain⟨v',ps,hrun,hv'⟩:=World.ownsMap.lookup (show W.ownsMap prog 9 RV r M.length (DM M)from hW.1 _ hmem) law9 ht (hz W) (zd:=.held z) (zp:=[]) rfl (key9 hs);have e1:v'=(findK M s).getD z:=by
   have h1:DataW.held v'=(DM M).atKey (klit s) (.held z):=by simpa[RV]using congrArg (Option.map Prod.fst) hv'
   exact e0o
  simp[execOp,hop,hm,hx,hrun,Result.andThen];rw[<-hv,e1]
structure Q6s(M:Nat->Prop)(J:Gh)(w W:World)(L:List Blk)(R:List Rw)(g:Nat):Prop where
 l:∀x∈L,x.1≠g
 r:∀r∈R,r.v.ownBlock≠some g
 j:J g=none
 may:g<w.heap.size->M g
 lt:g<W.heap.size
theorem Q4r.aside(h:Q4r J w W L R g):Q6s M J w W L R g:=⟨h.l,h.r,h.j,fun h1=>absurd h1 (by have:=h.ge;omega),h.lt⟩
theorem Q6s.notMine(h:Q6s M J w W L R g):¬Mine L R g:=by
 rintro(⟨x,hx,e⟩|⟨r,hr,e⟩)
 ·exact h.l x hx e
 ·exact h.r r hr e
theorem Q6s.mono0(h:Q6s M J w W L R g)(hs:W'.heap.size=W.heap.size+1):Q6s M J w W' L R g:=⟨h.l,h.r,h.j,h.may,by have:=h.lt;omega⟩
theorem Q6s.same(h:Q6s M J w W L R g)(hs:W'.heap.size=W.heap.size):Q6s M J w W' L R g:=⟨h.l,h.r,h.j,h.may,by rw[hs];exact h.lt⟩
theorem St.taken{x:Blk}(S:St M I J w W (x::L) R):St M I J w W L R/\Q6s M J w W L R x.1:=by
 have h0:=S.own _ (mem_cons_self ..);refine⟨S.dropL (L:=[x]),fun y hy=>((List.pairwise_cons.1 S.nodup).1 y hy).symm,fun r hr e=>((S.rows r hr).2 _ e).2.2 _ (mem_cons_self ..) rfl,h0.2.1,h0.2.2,S.lt (mem_cons_self ..)⟩
theorem St.given(S:St M I J w W L R)(ha:Q6s M J w W L R g)(hb:Q3z W g e):St M I J w W ((g,[],.m e)::L) R:=
 S.pushX hb ha.j ha.may (fun x hx=>ha.l x hx) (fun r hr=>ha.r r hr)
theorem St.nextedA(h:St M I J w W L R)(ha:Q6s M J w W L R g)(hg:W.grownBy W' (some g)):St M I J w W' L R:=
 ⟨h.step.grown hg fun k hk=>(by cases hk;exact⟨ha.j,ha.may⟩),fun x hx=>⟨(h.own x hx).1.keep (hg.block _ (h.lt hx) fun e=>ha.l x hx (Option.some.inj e)),(h.own x hx).2⟩,h.nodup,fun x hx=>⟨Q1q (h.rows x hx).1 fun k hk=>hg.block k (h.rlt hx hk) fun e=>ha.r x hx (by rw[hk,e]),(h.rows x hx).2⟩,h.rdis⟩
theorem Q6s.back{J K:Gh}(ha:Q6s M J w W L R g)(T:St (Mine L R) J K W W' L' R'):W'.heap[g]?=W.heap[g]?/\Q6s M K w W' L' R' g:=by
 have hn:=ha.notMine;refine⟨T.step.block g ha.lt hn,fun x hx e=>hn ?_,fun r hr e=>hn ?_,(T.step.old g ha.lt hn).trans ha.j,ha.may,by have:=T.step.size;have:=ha.lt;omega⟩
 ·rw[<-e];exact(T.own x hx).2.2 (by rw[e];exact ha.lt)
 ·exact((T.rows r hr).2 g e).2.1 ha.lt
end
theorem X8v(w:World):(zeroValue 214).run prog w=.ok .nilIface w:=by kernel_rfl
section
variable{w:World}{ops:Array Oper}{rest:List Oper}{o:Oper}{a:Act}{Q:EAW}{m x:Operand}{t el:TypeId}{r b:Nat}{e:KV}{s:BA}
theorem wl_lenM(hw:Region.wanted o (yielded ops a.tmps)=true)(ho:o.op=.call {callee:=.builtin .len,args:=#[m],argTypes:=#[t]})(hm:a.eval m=.map (some r))(hown:Q3z w r e)(ht:prog.underlying t=some (.map 9 el))
  (h:wpList prog ops Q rest (a.put o.dst (.int .i64 e.length)) w):wpList prog ops Q (o::rest) a w:=Q0l hw fun _ hK=>by
 have hrun:=World.ownsMap.len hown ht o.type;rw[X5k]at hrun;have:=hK _ _ h;unfold Oper.wp execOp;simp only[ho,resolve,invoke,builtin,Sem.run_bind,Sem.run_pure,Result.andThen_ok,List.map_toArray,List.map_cons,List.map_nil,hm,hrun];exact this
theorem Q2a.of_len{left:BA->Bool}{cnt n:Nat}{lf:Lit->Bool}(hl:∀s,lf (klit s)=left s)(h:w.ranges prog 9 RV b r n (DM e) lf cnt):Q2a w b r e left cnt:=by
 obtain⟨es,clock,since,seen,c0,k1,k2,k3,k4,k5⟩:=h;refine⟨lf,hl,es,clock,since,seen,c0,k1,k2,?_,k4,k5⟩;have h2:e.map (fun p=>(klit p.1,DataW.held p.2))=(es.toList.map (Go.WideElems.rg prog 9 RV)).foldr DataW.insert []:=by simpa[DM]using k4
 have h3:=congrArg List.length h2;rw[length_sorted]at h3;simp at h3;omega
theorem Z7b(hg:o.guard=none)(m x:Operand)(t k:TypeId)(hop:o.op=.call {callee:=.builtin .delete,args:=#[m,x],argTypes:=#[t,k]})(el:TypeId)(hk:k=9)(ht:prog.underlying t=some (.map 9 el))(b r:Nat)(e:KV)(left:BA->Bool)(cnt:Nat)
  (hm:a.eval m=.map (some b))(h:Q2a w b r e left cnt)(s:BA)(hx:a.eval x=.string s)(hs:s.size<=maxLen)
  (hK:∀w' cnt',Q2a w' b r (delK e s) (fun z=>left z&&!decide (z=s)) cnt'->cnt'<=cnt->w.grownBy w' (some b)->w'.heap.size=w.heap.size->wpList prog ops Q rest (a.put o.dst (.tuple #[])) w'):wpList prog ops Q (o::rest) a w:=by
 subst hk;obtain⟨lf,hl,hr⟩:=h;refine wpList_delete_ranges w hg m x t 9 hop el law9 ht RV b r e.length (DM e) lf cnt hm hr (.string s) (klit s) hx (key9 hs) fun w' cnt' h1 h2 h3=>?_;rw[DM_del]at h1;refine hK w' cnt' (.of_len (fun z=>?_) h1) h2 h3.grown ?_
 ·rw[hl,Q2u]
 ·obtain⟨_,_,_,_,_,rfl⟩:=h3;simp[ChangeMaps.setBlock]
end
end
section
abbrev MF:=BA->Option (FS×Bool)
def cfF(wf:BA)(s:C3)(F:MF):MF:=fun k=>if k=wf then none else match F k with
 |some (f,_)=>if(f.inter (s.m.union s.a)).bare then none else some (f.inter (s.m.union s.a),false)
 |none=>none
def rmF(wf:BA)(s:C3)(F:MF):MF:=fun k=>if k=wf then none else match F k with
 |some _=>if s.r.bare then none else some (s.r,false)
 |none=>none
def Q3w(F G:MF):MF:=fun k=>match F k,G k with
 |some (f,ap),some (c,_)=>some (f.diff c,ap)
 |x,_=>x
def Z0m(F:MF):MF:=fun k=>match F k with
 |some (f,ap)=>if f.bare then none else some (f,ap)
 |none=>none
def updF(wf:BA)(s:C3)(F:MF):MF:=Z0m (Q3w (Q3w F (cfF wf s F)) (rmF wf s F))
def gone(left:BA->Bool)(G:MF):MF:=fun k=>if left k=true then none else G k
section
variable{K:Gh}{v:BA}{e:KV}{F G:MF}{left:BA->Bool}{s:BA}
theorem VSs.nil(K:Gh)(v:BA)(h:∀k,G k=none):VSs K v [] G:=⟨List.Pairwise.nil,fun k=>.inl ⟨rfl,h k⟩⟩
theorem VSs.ins(h:VSs K v e F){st:Nat}{f:FS}{ap:Bool}(hf:FSI K st f)(hk:f.ok):VSs K v (insK e s (vsV st v ap)) (fun k=>if k=s then some (f,ap)else F k):=
 ⟨(Q2v h.1 _ _).1,fun k=>by
  simp only[Q4y _ _ _ h.1];by_cases hk2:k=s
  ·rw[if_pos hk2,if_pos hk2];exact .inr ⟨st,f,ap,rfl,rfl,hf,hk⟩
  ·rw[if_neg hk2,if_neg hk2];exact h.2 k⟩
theorem VSs.del(h:VSs K v e F):VSs K v (delK e s) (fun k=>if k=s then none else F k):=
 ⟨X5m h.1 _,fun k=>by
  simp only[findK_delK];by_cases hk2:k=s
  ·rw[if_pos hk2,if_pos hk2];exact .inl ⟨rfl,rfl⟩
  ·rw[if_neg hk2,if_neg hk2];exact h.2 k⟩
theorem VSs.of_eq(h:VSs K v e F)(hg:∀k,F k=G k):VSs K v e G:=(funext hg:F=G)▸h
theorem Q8b(hg:G s=none)(hl:left s=true)(k:BA):gone left G k=gone (fun z=>left z&&!decide (z=s)) G k:=by
 unfold gone;by_cases hk:k=s
 ·subst hk;simp[hl,hg]
 ·simp[hk]
theorem Z1z{f:FS}{ap:Bool}(hg:G s=some (f,ap))(k:BA):(if k=s then some (f,ap)else gone left G k)=gone (fun z=>left z&&!decide (z=s)) G k:=by
 unfold gone;by_cases hk:k=s
 ·subst hk;simp[hg]
 ·simp[hk]
theorem Z7j{f c:FS}{ap b:Bool}(hF:F s=some (f,ap))(hG:G s=some (c,b))(hl:left s=true)(k:BA):(if k=s then some (f.diff c,ap)else Q3w F (gone left G) k)=Q3w F (gone (fun z=>left z&&!decide (z=s)) G) k:=by
 by_cases hk:k=s
 ·subst hk;simp[Q3w,gone,hF,hG]
 ·simp[Q3w,gone,hk]
theorem Z7n{f:FS}{ap:Bool}(hF:F s=some (f,ap))(hl:left s=true):Q3w F (gone left G) s=some (f,ap):=by simp[Q3w,gone,hF,hl]
theorem Z5m(h:∀k,G k≠none->left k=true)(k:BA):F k=Q3w F (gone left G) k:=by
 unfold Q3w gone;by_cases hl:left k=true
 ·rw[if_pos hl];cases F k<;>rfl
 ·rw[if_neg hl];have:G k=none:=by
   cases hG:G k with
   |none=>rfl
   |some x=>exact absurd (h k (by rw[hG];exact Option.some_ne_none _)) hl
  rw[this];cases F k<;>rfl
theorem X0j:gone (fun _=>false) G=G:=funext fun k=>by simp[gone]
theorem VSs.isleft(h:VSs K v e G)(k:BA)(hk:G k≠none):(findK e k).isSome=true:=by
 rcases h.2 k with⟨_,h2⟩|⟨st,f,ap,h1,_⟩
 ·exact absurd h2 hk
 ·rw[h1];rfl
theorem VSs.start(h:VSs K v e F)(hG:∀k,F k=none->G k=none)(k:BA):gone (fun k=>(findK e k).isSome) G k=none:=by
 unfold gone;split
 ·rfl
 ·rename_i hn
  rcases h.2 k with⟨_,h2⟩|⟨st,f,ap,h1,_⟩
  ·exact hG k h2
  ·simp only[h1]at hn;exact absurd rfl hn
theorem cfF_none{wf:BA}{s:C3}{k:BA}(h:F k=none):cfF wf s F k=none:=by unfold cfF;split<;>simp[h]
theorem rmF_none{wf:BA}{s:C3}{k:BA}(h:F k=none):rmF wf s F k=none:=by unfold rmF;split<;>simp[h]
theorem VSs.at{f:FS}{ap:Bool}{k:BA}(h:VSs K v e F)(hk:F k=some (f,ap)):∃st,findK e k=some (vsV st v ap)/\FSI K st f/\f.ok:=by
 rcases h.2 k with⟨_,h2⟩|⟨st,f',ap',h1,h2,h3,h4⟩
 ·rw[hk]at h2;cases h2
 ·rw[hk]at h2;cases h2;exact⟨st,h1,h3,h4⟩
theorem X4p{wf:BA}{s:C3}{k:BA}{c:FS}{b:Bool}(h:cfF wf s F k=some (c,b)):∃f ap,F k=some (f,ap)/\c.cnt<=f.cnt:=by
 unfold cfF at h;split at h
 ·cases h
 ·split at h
  ·rename_i f ap hF
   split at h
   ·cases h
   ·cases h;exact⟨f,ap,hF,Z2h _ _⟩
  ·cases h
theorem rmF_get{wf:BA}{s:C3}{k:BA}{c:FS}{b:Bool}(h:rmF wf s F k=some (c,b)):∃f ap,F k=some (f,ap)/\c=s.r:=by
 unfold rmF at h;split at h
 ·cases h
 ·split at h
  ·rename_i x hF
   split at h
   ·cases h
   ·cases h;exact⟨x.1,x.2,hF,rfl⟩
  ·cases h
theorem lessF_some{f:FS}{ap:Bool}{k:BA}(h:F k=some (f,ap)):∃f',Q3w F G k=some (f',ap)/\f'.cnt<=f.cnt:=by
 cases hG:G k with
 |none=>exact⟨f,by simp[Q3w,h,hG],Nat.le_refl _⟩
 |some c=>exact⟨f.diff c.1,by simp[Q3w,h,hG],Z4p _ _⟩
theorem Z2b{f:FS}{ap:Bool}{k:BA}{B:Nat}(hB:∀k f ap,F k=some (f,ap)->f.cnt<=B)(h:Q3w F G k=some (f,ap)):f.cnt<=B:=by
 cases hF:F k with
 |none=>simp[Q3w,hF]at h
 |some x=>
  obtain⟨g,b⟩:=x;have h1:=hB _ _ _ hF;cases hG:G k with
  |none=>simp[Q3w,hF,hG]at h;obtain⟨rfl,rfl⟩:=h;exact h1
  |some c=>simp[Q3w,hF,hG]at h;obtain⟨rfl,rfl⟩:=h;exact Nat.le_trans (Z4p _ _) h1
theorem VSs.cut{left:BA->Bool}{f:FS}{ap:Bool}{k0:BA}(h:VSs K v e (fun k=>if left k=true then F k else Z0m F k))(hF:F k0=some (f,ap))(hl:left k0=true)(hb:f.bare=true):VSs K v (delK e k0) (fun k=>if(left k&&!decide (k=k0)&&!decide (k=k0))=true then F k else Z0m F k):=
 (h.del (s:=k0)).of_eq fun k=>by
  by_cases hk:k=k0
  ·subst hk;simp[Z0m,hF,hb]
  ·simp[hk]
theorem VSs.stay{left:BA->Bool}{f:FS}{ap:Bool}{k0:BA}(h:VSs K v e (fun k=>if left k=true then F k else Z0m F k))(hF:F k0=some (f,ap))(hl:left k0=true)(hb:f.bare=false):VSs K v e (fun k=>if(left k&&!decide (k=k0))=true then F k else Z0m F k):=
 h.of_eq fun k=>by
  by_cases hk:k=k0
  ·subst hk;simp[Z0m,hF,hb,hl]
  ·simp[hk]
theorem VSs.start4(h:VSs K v e F):VSs K v e (fun k=>if(findK e k).isSome=true then F k else Z0m F k):=
 h.of_eq fun k=>by
  rcases h.2 k with⟨h1,h2⟩|⟨st,f,ap,h1,h2,_⟩
  ·simp[h1,h2,Z0m]
  ·simp[h1]
end
end
end Go.Proofs.YtbmklgemmjgjfaaGreat
