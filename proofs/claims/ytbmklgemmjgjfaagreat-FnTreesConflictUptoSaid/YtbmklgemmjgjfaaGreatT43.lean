/- Part 43: Pel, Mgr, Par, Nod, Pas. -/
import Derived.Test.YtbmklgemmjgjfaaGreatT37
import Derived.Test.YtbmklgemmjgjfaaGreatT40
namespace Go.Proofs.YtbmklgemmjgjfaaGreat
open List (append_nil getElem?_map mem_of_getElem? take_length)
open Go.RowKit Go.Maps Tryz
set_option linter.unusedVariables false
set_option linter.unusedSimpArgs false
set_option maxRecDepth 100000
set_option maxHeartbeats 16000000
variable{J:Gh}
section
variable{b c:Nat}
theorem wl_rowS{P:Program}{ops:Array Oper}{rest:List Oper}{o:Oper}{a:Act}{W:World}{Q:EAW}{t:TypeId}{x:Operand}{j n:Nat}{sub:List Value}(hg:o.guard=none)(ho:o.op=.load t x)(hx:a.eval x=.pointer (some (ad b j)))[k:Tsz P t n true](hn:sub.length=n)(hc:∀(i:Nat) u,sub[i]?=some u->W.cell? (ad b (j+i))=some u)
  (h:wpList P ops Q rest (a.put o.dst (.agg sub.toArray)) W):wpList P ops Q (o::rest) a W:=Q0l (Q0b hg _) fun _ hK=>Q2h (Q4j ho hx (Q3f k.a k.s hc hn)) (hK _ _ h)
def Rd(J:Gh)(R:List Rw)(A:OA)(cs:List Value):Prop:=∀(M:Nat->Prop) (I K:Gh) (w W:World),J.le K->St M I K w W [] R->Q2f W A cs
variable{A:OA}
theorem rd_frz{cs:List Value}(h:Q0u J A cs):Rd J [] A cs:=fun _ _ _ _ _ l S=>Q2f.flat (h.mono l) S.inw
theorem rd_row(A:OA)(n c:Nat)(bs:List Nat):Rd J [pathRw A n c bs] A (bs.flatMap Q0i):=fun _ _ _ _ _ _ S=>Q2f.own (S.rows _ (List.mem_cons_self ..)).1
variable{bs:List Nat}
theorem Q2f.pe4{w:World}(h:Q2f w A (bs.flatMap Q0i)){i x:Nat}(hx:bs[i]?=some x):∃b o,A=some (ad b o)/\∀(j:Nat) u,((L1m x):List Value)[j]?=some u->w.cell? (ad b (o+i*4+j))=some u:=by
 obtain⟨b,o,e,h0,h1,h2,h3⟩:=h.pe hx;refine⟨b,o,e,fun j u hu=>?_⟩;match j,hu with
 |0,hu=>simp at hu;subst hu;exact h0
 |1,hu=>simp at hu;subst hu;exact h1
 |2,hu=>simp at hu;subst hu;exact h2
 |3,hu=>simp at hu;subst hu;exact h3
 |j+4,hu=>simp at hu
variable{x:PE}
theorem toElem_s(hx:ByteArray.size x<=maxLen):Ac 207 #[.agg (L0i x).toArray] J [] []<|N0 fun u K=>∃b,u=Q3u b/\Nm K b x:=by
 intro M I w W S;go_enter func207,ntmps207;go_wp2_with (first|refine wk ?_|refine wB ?_;clear S;intro y W S|refine wA ?_;clear S;intro z W S|refine Ws ?_;clear S;intro W S)
 refine bT ?_;replace S:=Lib.front S [(z,[.string x],.t 9)] [];exact e1h
variable{p:List PE}
theorem toPath_s(hf:Q0u J A (p.flatMap Q0s))(hl:p.length<2 ^ 30)(hz:∀k∈p,ByteArray.size k<=maxLen):
  Ac 149 #[.slice A p.length c] J [] [] fun u K L' R'=>L'=[]/\∃A' c' bs,u=.slice A' p.length c'/\R'=[pathRw A' p.length c' bs]/\All2 (Nm K) bs p:=by
 intro M I w W S;have HT:=Hd (nd3 hf hl hz);clear hf hl hz;go_enter func149,ntmps149;go_wp2_with (refine Q0q (t:=251) (e:=358) S (Q0b rf _) rf underlying251 kr 4 ?_;clear S;(try clear W);intro y W S)
 go_loopg [3,9] p.length (fun g s3 s9 wr=>∃(i:Nat) (K:Gh) (A':OA) (c':Nat) (bs:List Nat) (T:List Blk),s3=.slice A' i c'/\s9=.int .i64 (i:Nat)/\i<=p.length/\g=p.length -i/\bs.length=i/\Hid (St M I K w wr T [⟨.slice A' i c',358,4,i,bs.flatMap Q0i⟩])/\Hid (J.le K/\All2 (Nm K) bs (p.take i)))
 case atStart=>exact⟨0,J,some (ad y 0),0,[],_,rfl,rfl,Nat.zero_le _,rfl,rfl,S,Hd ⟨gR,.nil⟩⟩
 case round=>
  clear S;obtain⟨i,K,A1,c1,bs,T,rfl,rfl,hi1,hg,hbl,S,HW⟩:=hrel;by_cases hlt:i<p.length
  ·obtain⟨x,hx⟩:∃x,p[i]?=some x:=gx hlt;obtain⟨b2,o2,rfl,hX0⟩:=Z3i (HT.out.1.mono HW.out.1) hx;have hX:=Hd hX0;have HX:=Hd (And.intro (HT.out.2.2 x (mem_of_getElem? hx)) (Q1k hx));clear hx hX0;go_wp2_with (first|refine X9l (sub:=(L0i x)) rf rfl rfl rfl hX.out S.out.inw ?_|refine wk ?_|refine Ws ?_;clear S;intro W S|refine wn ?_;clear S;intro y W S)
   refine Q0a S (toElem_s (J:=K) HX.out.1) ?_;clear S;rintro r5 K5 L5 R5 W' hle5 ⟨rfl,rfl,b5,rfl,hn5⟩ S;have HA:=Hd (And.intro hn5 hle5);clear hn5 hle5;replace S:=sa S;have hN:i+1<2 ^ 32:=by have:=HT.out.2.1;omega
   unfold Q3u;go_wp2_with (first|refine Q9a (sub:=(L1m b5)) S rfl rfl underlying251 rfl ?_;clear S;intro z W S|refine Q7e S rfl rfl rfl rfl underlying251 Q4v rf hN ?_;clear S;intro A2 c2 W S)
   go_roundg (p.length -(i+1))
   case measure=>omega
   case rel=>exact⟨i+1,K5,A2,c2,bs++[b5],_,rfl,by simp,by omega,rfl,by simp[hbl],b1p,Hd ⟨gT HW.out.1 HA.out.2,by rw[HX.out.2];exact Q1e (HW.out.2.imp fun _ _ h=>h.mono HA.out.2) HA.out.1⟩⟩
  ·have hi2:i=p.length:=by omega
   subst hi2;go_wp2_with fail
   refine bT ?_;exact ap (L:=[]) HW.out.1 ⟨rfl,A1,c1,bs,rfl,rfl,by have:=HW.out.2;rwa [take_length]at this⟩ kp
theorem fromElem_s(h:Nm J b x):Ac 174 #[Q3u b] J [] [] fun u K L' R'=>K=J/\L'=[]/\R'=[]/\u=.agg (L0i x).toArray:=by
 intro M I w W S;have HN:=Hd h.1;clear h;unfold Q3u;go_enter func174,ntmps174;go_wp2_with (first|refine wk ?_|refine wB ?_;clear S;intro y W S|refine wA ?_;clear S;intro z W S|refine wlf HN.out S ?_|refine Ws ?_;clear S;intro W S)
 exact e0i
theorem Z7z{R:List Rw}(hrd:Rd J R A (bs.flatMap Q0i))(hb:All2 (Nm J) bs p)(hl:p.length<2 ^ 30):
  Ac 117 #[.slice A p.length c] J [] R fun u K L' R'=>K=J/\L'=[]/\∃A' c',u=.slice A' p.length c'/\R'=⟨.slice A' p.length c',173,11,p.length,p.flatMap Q0s⟩::R:=by
 intro M I w W S;have HT:=Hd (nd3 hrd hb hl);clear hrd hb hl;go_enter func117,ntmps117;go_wp2_with (refine Q0q (t:=79) (e:=173) S (Q0b rf _) rf underlying79 kr 11 ?_;clear S;(try clear W);intro y W S)
 go_loopg [3,9] p.length (fun g s3 s9 wr=>∃(i:Nat) (A':OA) (c':Nat) (T:List Blk),s3=.slice A' i c'/\s9=.int .i64 (i:Nat)/\i<=p.length/\g=p.length -i/\Hid (St M I J w wr T (⟨.slice A' i c',173,11,i,(p.take i).flatMap Q0s⟩::R)))
 case atStart=>exact⟨0,some (ad y 0),0,_,rfl,rfl,Nat.zero_le _,rfl,S⟩
 case round=>
  clear S;obtain⟨i,A1,c1,T,rfl,rfl,hi1,hg,S⟩:=hrel;by_cases hlt:i<p.length
  ·obtain⟨x,hx⟩:∃x,p[i]?=some x:=gx hlt;obtain⟨b,hbx⟩:∃b,bs[i]?=some b:=gx (by rw[HT.out.2.1.length];exact hlt);obtain⟨b2,o2,rfl,hX0⟩:=(HT.out.1 _ _ _ _ _ gR (keep S)).pe4 hbx;have hX:=Hd hX0;have HX:=Hd (And.intro (HT.out.2.1.get hbx hx) (Q1k hx));clear hx hbx hX0;go_wp2_with (first|refine wl_rowS (sub:=(L1m b)) rf rfl rfl rfl hX.out ?_|refine wk ?_|refine Ws ?_;clear S;intro W S|refine wn ?_;clear S;intro y W S)
   have hcall:=fromElem_s (J:=J) HX.out.1;unfold Q3u at hcall;refine Q0a S hcall ?_;clear S hcall;rintro r5 K5 L5 R5 W' hle5 ⟨hKJ,rfl,rfl,rfl⟩ S;have hJK:=hKJ.symm;subst hJK;replace S:=sa S;have hN:i+1<2 ^ 32:=by have:=HT.out.2.2;omega
   go_wp2_with (first|refine Q9a (sub:=(L0i x)) S rfl rfl underlying79 rfl ?_;clear S;intro z W S|refine Q7e S rfl rfl rfl rfl underlying79 Z7c rf hN ?_;clear S;intro A2 c2 W S)
   go_roundg (p.length -(i+1))
   case measure=>omega
   case rel=>exact⟨i+1,A2,c2,_,rfl,by simp,by omega,rfl,(by rw[HX.out.2,List.flatMap_append];exact S)⟩
  ·have hi2:i=p.length:=by omega
   subst hi2;go_wp2_with fail
   rw[take_length]at S;refine bT ?_;exact ap (L:=[]) gR ⟨rfl,rfl,A1,c1,rfl,rfl⟩ kp
def plen(ps:List (List PE)):Nat:=(ps.map List.length).sum
def FS.insAll(ps:List (List PE)):FS:=ps.foldl FS.ins .nil
theorem plen_snoc(ps:List (List PE))(p:List PE):plen (ps++[p])=plen ps+p.length:=by simp[plen]
theorem X5j(ps:List (List PE))(p:List PE):FS.insAll (ps++[p])=(FS.insAll ps).ins p:=by simp[FS.insAll]
theorem Z3n(ps:List (List PE)):(FS.insAll ps).cnt<=plen ps:=by
 suffices h:∀(ps:List (List PE)) (s:FS),(ps.foldl FS.ins s).cnt<=s.cnt+plen ps by
  have:=h ps .nil;simpa[FS.insAll,FS.nil,FS.cnt,FS.cnt.cntC]using this
 intro ps;induction ps with
 |nil=>intro s;simp[plen]
 |cons p ps ih=>
  intro s;have h1:=ih (s.ins p);have h2:=X6j p s;simp only[List.foldl_cons,plen,List.map_cons,List.sum_cons]at h1⊢;omega
theorem Z5e(ps:List (List PE)):(FS.insAll ps).ok:=by
 suffices h:∀(ps:List (List PE)) (s:FS),s.ok->(ps.foldl FS.ins s).ok from h ps .nil FS.ok_nil
 intro ps;induction ps with
 |nil=>intro s h;exact h
 |cons p ps ih=>intro s h;exact ih _ (X1x p h)
theorem plen_take(ps:List (List PE))(i:Nat):plen (ps.take i)<=plen ps:=by
 have h:plen (ps.take i++ps.drop i)=plen (ps.take i)+plen (ps.drop i):=by simp only[plen,List.map_append,List.sum_append]
 rw[List.take_append_drop]at h;omega
theorem toSet_s{ps:List (List PE)}{vs:List Value}(hf:Q0u J A vs)(ha:All2 (Q2l J) vs ps)(hl:ps.length<2 ^ 30)(hp:plen ps<2 ^ 29)(hz:∀p∈ps,∀k∈p,ByteArray.size k<=maxLen):
  Ac 94 #[.slice A ps.length c] J [] []<|N0 fun u K=>∃st,u=pt st/\FSI K st (FS.insAll ps):=by
 intro M I w W S;have HT:=Hd (nd5 hf ha hl hp hz);clear hf ha hl hp hz;go_enter func94,ntmps94;go_wp2_with fail
 refine Q0a S (X9b (J:=J)) ?_;clear S;rintro r5 K5 L5 R5 W' hle5 ⟨hKJ,rfl,st,rfl,rfl⟩ S;have hJK:=hKJ.symm;subst hJK;replace S:=sa S;replace S:=Hd ((S.out.nilrow 423 5).nilrow 358 4);go_wp2_with fail
 go_loopg [9] ps.length (fun g s9 wr=>∃(i:Nat) (K:Gh) (L:List Blk) (R:List Rw),s9=.int .i64 (i:Nat)/\i<=ps.length/\g=ps.length -i/\Hid (St M I K w wr L R)/\Hid (J.le K/\FO K st (FS.insAll (ps.take i)) L R))
 case atStart=>exact⟨0,J,_,_,rfl,Nat.zero_le _,rfl,S,Hd ⟨gR,FO.new J st⟩⟩
 case round=>
  clear S;obtain⟨i,K,L,R,rfl,hi1,hg,S,HW⟩:=hrel;by_cases hlt:i<ps.length
  ·obtain⟨p,hx⟩:∃x,ps[i]?=some x:=gx hlt;obtain⟨b2,o2,qa,qc,rfl,hc,hq⟩:=Z3q (Q2f.flat (HT.out.1.mono HW.out.1) S.out.inw) (HT.out.2.1.imp fun _ _ h=>h.mono HW.out.1) hx;have hpl:plen (ps.take i)+p.length<=plen ps:=by rw[<-plen_snoc,<-Q1k hx];exact plen_take _ _
   have HX:=Hd (nd5 hq (show p.length<2 ^ 30 by have:=HT.out.2.2.2.1;omega) (HT.out.2.2.2.2 p (mem_of_getElem? hx)) (Q1k hx) (show(FS.insAll (ps.take i)).cnt+p.length<2 ^ 30 by have:=Z3n (ps.take i);have:=HT.out.2.2.2.1;omega));have HC:=Hd hc;clear hx hq hpl hc;go_wp2_with (refine Q1a rf rfl rfl HC.out ?_)
   refine Q0a S (toPath_s (c:=qc) HX.out.1 HX.out.2.1 HX.out.2.2.1) ?_;clear S;rintro r5 K5 L5 R5 W' hle5 ⟨rfl,qa',qc',bs,rfl,rfl,hbs⟩ S;have HA:=Hd (And.intro hbs hle5);clear hbs hle5;simp only[pathRw,List.cons_append,List.nil_append]at S;go_wp2_with fail
   refine Q0a S (Q3t (L:=L) (R:=R) (b:=st) (s:=FS.insAll (ps.take i)) (bs:=bs) (p:=p) (HW.out.2.mono HA.out.2) (Z5e _) HA.out.1 HX.out.2.2.2.2) ?_;clear S;rintro r6 K6 L6 R6 W' hle6 ⟨rfl,hKJ,R1,rfl,hFO⟩ S;have hJK:=hKJ.symm;subst hJK;have HF:=Hd hFO;have hN:i+1<2 ^ 32:=by have:=HT.out.2.2.1;omega
   clear hFO;go_wp2_with fail
   go_roundg (ps.length -(i+1))
   case measure=>omega
   case rel=>
    have S3:St M I K5 w W' (L6++[]) ((⟨.slice qa' p.length qc',358,4,p.length,bs.flatMap Q0i⟩::R1)++[]):=S.out;rw[append_nil,append_nil]at S3;exact⟨i+1,K5,L6,R1,by simp,by omega,rfl,Hd S3.rpop,Hd ⟨gT HW.out.1 HA.out.2,by rw[HX.out.2.2.2.1,X5j];exact HF.out⟩⟩
  ·have hi2:i=ps.length:=by omega
   subst hi2;go_wp2_with fail
   have h2:=HW.out.2;rw[take_length]at h2;obtain⟨K2,hle2,hfs,S3⟩:=h2.freeze (L0:=[]) (R0:=[]) (by rw[append_nil,append_nil];exact S.out);refine bT ?_;exact ap (gT HW.out.1 hle2) ⟨rfl,rfl,st,rfl,hfs⟩ S3
def FsInv(bo:Nat)(done:List (List PE))(K:Gh)(L:List Blk)(R:List Rw):Prop:=
 ∃(ca:OA) (cc:Nat) (us:List Value),L=[(bo,[.slice ca us.length cc],.t 49)]/\R=[⟨.slice ca us.length cc,79,1,us.length,us⟩]/\All2 (Q2l K) us done
theorem call116(args:Array Value)(w:World):(callFunc 116 args).run prog w=.ok (.enter 116 args) w:=by simp[go_sem,Go.MuLone.run_callFunc_enter func116 kr rfl]
theorem fs_f{bo:Nat}:X9j 116 #[pt bo] (FsInv bo):=by
 intro K L R done p pa pc bs hI hbs hp hd M I w W S;obtain⟨ca,cc,us,rfl,rfl,hvs⟩:=hI;have hvl:us.length+1<2 ^ 32:=by have:=hvs.length;omega
 have HI:=Hd (nd4 hvs hbs hp hvl);clear hvs hbs hd hvl;simp only[pathRw,List.size_toArray,List.cons_append,List.nil_append]at*;go_enter func116,ntmps116;refine Rg S [(bo,[.slice ca us.length cc],.t 49)] [] [5] [0,1] 4 fun W S=>?_;refine Zw [] 3 2 ?_;intro KK hKK;go_simp;have hcall:=Z7z (c:=pc) (rd_row (J:=K) pa p.length pc bs) HI.out.2.1 HI.out.2.2.1;simp only[pathRw]at hcall;refine Q0a S hcall ?_;clear hcall S;rintro r5 K5 L5 R5 W' hle5 ⟨hKJ,rfl,qa,qc,rfl,rfl⟩ S;have hJK:=hKJ.symm;subst hJK;replace S:=sa S;obtain⟨K2,qa2,qc2,hle2,hv2,hn2,hm2,hf2,S3⟩:=S.out.rfreeze;have e2:qa2=qa/\qc2=qc:=b1k
 obtain⟨rfl,rfl⟩:=e2;have HQ:=Hd (nd4 hle2 hn2 hm2 hf2);clear S hv2 hn2 hm2 hf2;have S:=Hd S3;clear S3;refine Yw [] 2 3 ?_;intro KK hKK;refine Q1s (sub:=[.slice qa2 p.length qc2]) S rfl underlying49 rfl ?_;clear S;intro y W S;refine Yw [] 1 4 ?_;intro KK hKK;replace S:=Lib.front S [] [⟨.slice ca us.length cc,79,1,us.length,us⟩];replace S:=sa S;refine Q1m S rfl rfl rfl underlying49 in79 rfl HI.out.2.2.2 ?_;clear S;intro A1 c1 W S;refine Hy ?_;refine Cl 5 fun KK hKK=>?_;refine Q0j (v:=.slice A1 (us.length+1) c1) S rfl rfl rfl rfl ?_;clear S;intro W S;refine hKK.out _ _ (NoPanic.normal ?_);clear hKK KK;refine bodyPost_end (results_none rfl _ _ _) rfl ?_;refine ap (R:=[⟨.slice pa p.length pc,358,4,p.length,bs.flatMap Q0i⟩,⟨.slice A1 (us.length+1) c1,79,1,us.length+1,us++[.slice qa2 p.length qc2]⟩]) (L:=[(bo,[.slice A1 (us.length+1) c1],.t 49)]) HQ.out.1 ⟨rfl,_,rfl,A1,c1,us++[.slice qa2 p.length qc2],by simp,by simp,?_⟩ kp;exact Q1e (HI.out.1.imp fun _ _ h=>h.mono HQ.out.1) ⟨_,_,rfl,HQ.out.2⟩
theorem fromSet_s{st:Nat}{f:FS}(hs:FSI J st f)(hb:f.cnt<2 ^ 29):
  Ac 59 #[pt st] J [] []<|N0 fun u K=>Q2i K u f.all:=by
 intro M I w W S;have HT:=Hd (And.intro hs hb);clear hs hb;go_enter func59,ntmps59;replace S:=Hd (S.out.nilrow 79 1);go_wp2_with (first|refine wk ?_|refine wn ?_;clear S;intro bo W S)
 have hit:=X3g (F:=116) (caps:=#[pt bo]) (K:=J) (L:=[(bo,[sn],.t 49)]) (R:=[⟨sn,79,1,0,[]⟩]) call116 (fs_f (bo:=bo)) ⟨none,0,[],rfl,rfl,.nil⟩ HT.out.1 HT.out.2;refine Q0a S hit ?_;clear hit S;rintro r5 K5 L5 R5 W' hle5 ⟨rfl,ca,cc,us,rfl,rfl,hus⟩ S;have HU:=Hd (And.intro hle5 hus);clear hle5 hus;replace S:=sa S;go_wp2_with (refine wk ?_)
 obtain⟨K2,qa,qc,hle2,hv2,hn2,hm2,hf2,S3⟩:=S.out.rfreeze;simp only[Value.slice.injEq,true_and]at hv2;obtain⟨rfl,rfl⟩:=hv2;have hl:=HU.out.2.length;refine bT ?_;exact ap (L:=[]) (gT HU.out.1 hle2) ⟨rfl,rfl,ca,cc,us,by rw[<-hl];rfl,by rw[<-hl];exact hn2,hm2,hf2,HU.out.2.imp fun _ _ h=>h.mono hle2⟩ (show St _ _ _ _ _ _ _ from keep (Hd S3))
end
section
structure Mgn where
 name:BA
 ap:Bool
 ps:List (List PE)
def mgC(v:BA)(x:Value×Mgn):List Value:=[.string x.2.name,.string v,.bool x.2.ap,x.1]
theorem mgC_len(v:BA)(x:Value×Mgn):(mgC v x).length=4:=rfl
def Q9d(J:Gh)(v:BA)(u:Value)(ms:List Mgn):Prop:=∃(A:OA) (c:Nat) (xs:List (Value×Mgn)),u=.slice A ms.length c/\ms.length<=c/\c<=maxLen/\Q0u J A (xs.flatMap (mgC v))/\xs.map (·.2)=ms/\∀x∈xs,Q2i J x.1 x.2.ps
variable{ms:List Mgn}{u:Value}{v:BA}
theorem Q9d.mono{K:Gh}(h:Q9d J v u ms)(l:J.le K):Q9d K v u ms:=by
 obtain⟨A,c,xs,h1,h2,h3,h4,h5,h6⟩:=h;exact⟨A,c,xs,h1,h2,h3,h4.mono l,h5,fun x hx=>(h6 x hx).mono l⟩
theorem mg_at{A:OA}{xs:List (Value×Mgn)}(h:Q0u J A (xs.flatMap (mgC v))){i:Nat}{x:Value×Mgn}(hx:xs[i]?=some x):∃b o,A=some (ad b o)/\∀(j:Nat) u,(mgC v x)[j]?=some u->J.cell (ad b (o+i*4+j)) u:=by
 have g:∀j u,(mgC v x)[j]?=some u->(xs.flatMap (mgC v))[i*4+j]?=some u:=fun j u hu=>Q3x (mgC_len v) hx hu;rcases h with⟨_,e⟩|⟨b,o,e,h⟩
 ·exact e1f
 ·exact⟨b,o,e,fun j u hu=>by rw[Nat.add_assoc];exact h _ _ (g j u hu)⟩
def mgF:List Mgn->MF:=fun ms=>ms.foldl (fun F m=>fun k=>if k=m.name then some (FS.insAll m.ps,m.ap)else F k) fun _=>none
theorem mgF_snoc(ms:List Mgn)(m:Mgn):mgF (ms++[m])=fun k=>if k=m.name then some (FS.insAll m.ps,m.ap)else mgF ms k:=by simp[mgF]
structure Mgn.fits(m:Mgn):Prop where
 n:m.name.size<=maxLen
 l:m.ps.length<2 ^ 30
 p:plen m.ps<2 ^ 29
 z:∀p∈m.ps,∀k∈p,ByteArray.size k<=maxLen
theorem toMgs_s(hm:Q9d J v u ms)(hl:ms.length<2 ^ 30)(hf:∀m∈ms,m.fits):
  Ac 52 #[u] J [] []<|N0 fun r K=>∃mr e,r=.map (some mr)/\K.map mr e/\VSs K v e (mgF ms)/\e.length<=ms.length:=by
 intro M I w W S;obtain⟨A,c,xs,rfl,h1,h2,h3,h4,h5⟩:=hm;have HT:=Hd (nd5 h3 h4 h5 hl hf);clear h1 h2 h3 h4 h5 hl hf;go_enter func52,ntmps52;go_wp2_with (refine X1a S rfl rfl ?_;clear S;intro mr W S)
 go_loopg [9] ms.length (fun g s9 wr=>∃(i:Nat) (K:Gh) (e:KV) (T:List Blk),s9=.int .i64 (i:Nat)/\i<=ms.length/\g=ms.length -i/\Hid (St M I K w wr ((mr,[],.m e)::T) [])/\Hid (J.le K/\VSs K v e (mgF (ms.take i))/\e.length<=i))
 case atStart=>exact⟨0,J,[],_,rfl,Nat.zero_le _,rfl,S,Hd ⟨gR,.nil J v (fun _=>rfl),Nat.le_refl _⟩⟩
 case round=>
  clear S;obtain⟨i,K,e,T,rfl,hi1,hg,S,HW⟩:=hrel;by_cases hlt:i<ms.length
  ·obtain⟨⟨pv,m⟩,hx⟩:∃x,xs[i]?=some x:=gx b2m;have hmi:ms[i]?=some m:=by rw[<-HT.out.2.1,getElem?_map,hx];rfl
   have hpa:Q2i J pv m.ps:=HT.out.2.2.1 _ (mem_of_getElem? hx);obtain⟨qa,qc,us,rfl,_,_,hq1,hq2⟩:=hpa;obtain⟨b2,o2,rfl,hX0⟩:=mg_at (HT.out.1.mono HW.out.1) hx;have hX:Hid (∀(j:Nat) u,((L1y m.name v m.ap qa m.ps.length qc):List Value)[j]?=some u->K.cell (ad b2 (o2+i*4+j)) u):=Hd hX0;have hfi:=HT.out.2.2.2.2 m (mem_of_getElem? hmi);have HX:=Hd (nd6 (hq1.mono HW.out.1) (hq2.imp fun _ _ h=>h.mono HW.out.1) hfi.l hfi.p hfi.z (And.intro hfi.n (Q1k hmi)));have hN:i+1<2 ^ 32:=by have:=HT.out.2.2.2.1;omega
   have hem:e.length<maxLen:=by have:=HW.out.2.2;have:=HT.out.2.2.2.1;unfold maxLen;omega
   clear hx hmi hq1 hq2 hX0 hfi;go_wp2_with (first|refine X9l (sub:=(L1y m.name v m.ap qa m.ps.length qc)) rf rfl rfl rfl hX.out S.out.inw ?_|refine wk ?_|refine Ws ?_;clear S;intro W S|refine wn ?_;clear S;intro y W S)
   refine Rg S [(y,L1y m.name v m.ap qa m.ps.length qc,.t 57)] [] [11] [0,1,2,3,4,6,7,8,9] 3 fun W S=>?_;refine Zw [] 2 5 ?_;intro KK hKK;go_simp;refine Q0a S (toSet_s (J:=K) (c:=qc) HX.out.1 HX.out.2.1 HX.out.2.2.1 HX.out.2.2.2.1 HX.out.2.2.2.2.1) ?_;clear S;rintro r5 K5 L5 R5 W' hle5 ⟨rfl,rfl,st,rfl,hst⟩ S;have HA:=Hd (And.intro hst hle5);clear hst;replace S:=sa S;refine Yw [] 1 10 ?_;intro KK hKK;go_simp;refine got S (Z0v (st:=st) (v:=v) (ap:=m.ap)) ?_;clear S;intro W S;unfold vsV;refine Hy ?_;refine Cl 11 fun KK hKK=>?_;replace S:=Lib.front S [(mr,[],.m e)] [];replace S:=sa S;refine Z5j (v:=.iface 306 (Q4o st v m.ap)) S rfl rfl rfl rfl underlying126 hem HX.out.2.2.2.2.2.1 ?_;clear S;intro W S;refine hKK.out _ _ (NoPanic.normal ?_);clear hKK KK;go_wp2_with fail
   go_roundg (ms.length -(i+1))
   case measure=>omega
   case rel=>exact⟨i+1,K5,insK e m.name (.iface 306 (Q4o st v m.ap)),_,by simp,by omega,rfl,Hd (Lib.front S [(mr,[],.m (insK e m.name (.iface 306 (Q4o st v m.ap))))] []).out,Hd ⟨gT HW.out.1 HA.out.2,by rw[HX.out.2.2.2.2.2.2,mgF_snoc];exact(HW.out.2.1.mono HA.out.2).ins HA.out.1 (Z5e _),Nat.le_trans (Q3r _ _ _) (by have:=HW.out.2.2;omega)⟩⟩
  ·have hi2:i=ms.length:=by omega
   subst hi2;go_wp2_with fail
   obtain⟨K2,hle2,hm2,S3⟩:=S.out.freezeM;have h2:=HW.out.2.1;rw[take_length]at h2;refine bT ?_;exact ap (L:=[]) (gT HW.out.1 hle2) ⟨rfl,rfl,mr,e,rfl,hm2,h2.mono hle2,HW.out.2.2⟩ (show St _ _ _ _ _ _ _ from keep (Hd S3))
theorem X3d{mr:Nat}{e:KV}{F:MF}(hm:J.map mr e)(hv:VSs J v e F)(hl:e.length<2 ^ 30)(hB:∀k f ap,F k=some (f,ap)->f.cnt<2 ^ 29)(hz:∀p∈e,ByteArray.size p.1<=maxLen):
  Ac 108 #[.map (some mr)] J [] []<|N0 fun r K=>∃ms,Q9d K v r ms/\ms.map Mgn.name=e.map (·.1)/\∀m∈ms,∃f,F m.name=some (f,m.ap)/\m.ps=f.all:=by
 intro M I w W S;have HT:=Hd (nd5 hm hv hl hB hz);clear hv hl hB hz;go_enter func108,ntmps108;replace S:=Hd (S.out.nilrow 57 4);go_wp2_with fail
 refine Q0a S (X5t hm HT.out.2.2.1) ?_;clear S hm;rintro r5 K5 L5 R5 W' hle5 ⟨hKJ,rfl,Ak,ck,rfl,rfl⟩ S;have hJK:=hKJ.symm;subst hJK;replace S:=sa S;obtain⟨K1,qa,qc,hle1,hv1,hn1,hm1,hf1,S3⟩:=S.out.rfreeze;have e1:qa=Ak/\qc=ck:=by simp only[Value.slice.injEq]at hv1;exact⟨hv1.1.symm,hv1.2.2.symm⟩
 obtain⟨rfl,rfl⟩:=e1;have HF:=Hd (nd4 hle1 hn1 hm1 hf1);clear S hle1 hn1 hm1 hf1 hv1;have S:=Hd S3;clear S3;go_wp2_with fail
 go_loopg [3,10] e.length (fun g s3 s10 wr=>∃(i:Nat) (K:Gh) (A:OA) (c:Nat) (xs:List (Value×Mgn)) (T:List Blk),s3=.slice A i c/\s10=.int .i64 (i:Nat)/\i<=e.length/\g=e.length -i/\xs.length=i/\Hid (St M I K w wr T [⟨.slice A i c,57,4,i,xs.flatMap (mgC v)⟩])/\Hid (K1.le K/\(∀x∈xs,Q2i K x.1 x.2.ps)/\xs.map (fun x=>x.2.name)=(e.take i).map (·.1)/\∀x∈xs,∃f,F x.2.name=some (f,x.2.ap)/\x.2.ps=f.all))
 case atStart=>exact⟨0,K1,none,0,[],_,rfl,rfl,Nat.zero_le _,rfl,rfl,S,Hd ⟨gR,fun _ h=>absurd h b0f,rfl,fun _ h=>absurd h b0f⟩⟩
 case round=>
  clear S;obtain⟨i,K,A,c,xs,T,rfl,rfl,hi1,hg,hxl,S,HW⟩:=hrel;by_cases hlt:i<e.length
  ·obtain⟨⟨key,u⟩,hx⟩:∃x,e[i]?=some x:=gx hlt;obtain⟨b2,o2,rfl,hX0⟩:∃b o,qa=some (ad b o)/\K1.cell (ad b (o+i)) (.string key):=(by
    have hg1:((e.map (·.1)).map Value.string)[i]?=some (.string key):=by rw[getElem?_map,getElem?_map,hx];rfl
    rcases HF.out.2.2.2 with⟨_,h2⟩|⟨b,o,h1,h2⟩
    ·rw[h2]at hg1;simp at hg1
    ·exact⟨b,o,h1,h2 _ _ hg1⟩)
   have hX:=Hd (hX0.mono HW.out.1);have hle:J.le K:=gT HF.out.1 HW.out.1;have hfk:=Q3g HT.out.1.sorted (mem_of_getElem? hx);obtain⟨st,f,ap,rfl,hF,hst,hok⟩:=HT.out.2.1.get hfk;have HX:=Hd (nd6 (HT.out.1.mono hle) (show(findK e key).getD .nilIface=vsV st v ap by rw[hfk];rfl) (HT.out.2.2.2.2 _ (mem_of_getElem? hx)) (hst.mono hle) (HT.out.2.2.2.1 _ _ _ hF) (And.intro hF (Q1k hx)));have hN:i+1<2 ^ 32:=by have:=HT.out.2.2.1;omega
   have hlook:=HX.out.2.1;clear hx hX0 hfk hF hst hok;unfold vsV Q4o at hlook;go_wp2_with (first|refine wlf hX.out S ?_|at_lookup;refine Q6x .nilIface rfl _ _ 126 214 rfl underlying126 X8v mr e rfl (HX.out.1.at S.out.inw) key rfl HX.out.2.2.1 ?_;rw[hlook]|go_at_call 362;refine(Q9n (st:=st) (v:=v) (ap:=ap) _ S.out.inw).mono ?_;rintro e9 W ⟨rfl,st9⟩;replace S:=Hd (S.out.call st9);clear st9|go_at_call 363;refine(X4a (st:=st) (v:=v) (ap:=ap) _ S.out.inw).mono ?_;rintro e9 W ⟨rfl,st9⟩;replace S:=Hd (S.out.call st9);clear st9|go_at_call 364;refine(Q8q (st:=st) (v:=v) (ap:=ap) _ S.out.inw).mono ?_;rintro e9 W ⟨rfl,st9⟩;replace S:=Hd (S.out.call st9);clear st9)
   refine Q0a S (fromSet_s HX.out.2.2.2.1 HX.out.2.2.2.2.1) ?_;clear S;rintro r6 K6 L6 R6 W' hle6 ⟨rfl,rfl,pa,pc,us,rfl,hp1,hp2,hp3,hp4⟩ S;have HA:=Hd (And.intro (show Q2i K6 (.slice pa f.all.length pc) f.all from⟨pa,pc,us,rfl,hp1,hp2,hp3,hp4⟩) hle6);clear hp1 hp2 hp3 hp4 hle6;replace S:=sa S;go_wp2_with (first|refine Q9a (sub:=(L1y key v ap pa f.all.length pc)) S rfl rfl underlying36 rfl ?_;clear S;intro z W S|refine Q7e S rfl rfl rfl rfl underlying36 in57 rf hN ?_;clear S;intro A2 c2 W S)
   go_roundg (e.length -(i+1))
   case measure=>omega
   case rel=>
    refine⟨i+1,K6,A2,c2,xs++[(.slice pa f.all.length pc,⟨key,ap,f.all⟩)],_,rfl,by simp,by omega,rfl,by simp[hxl],b1p,Hd ⟨gT HW.out.1 HA.out.2,fun x hx=>?_,by rw[HX.out.2.2.2.2.2.2,List.map_append,List.map_append,HW.out.2.2.1];rfl,fun x hx=>?_⟩⟩
    ·rcases List.mem_append.1 hx with hx|hx
     ·exact(HW.out.2.1 x hx).mono HA.out.2
     ·rw[List.mem_singleton.1 hx];exact HA.out.1
    ·rcases List.mem_append.1 hx with hx|hx
     ·exact HW.out.2.2.2 x hx
     ·rw[List.mem_singleton.1 hx];exact⟨f,HX.out.2.2.2.2.2.1,rfl⟩
  ·have hi2:i=e.length:=by omega
   subst hi2;go_wp2_with fail
   obtain⟨K2,pa,pc,hle2,hv2,hn2,hm2,hf2,S3⟩:=S.out.rfreeze;simp only[Value.slice.injEq,true_and]at hv2;obtain⟨rfl,rfl⟩:=hv2;have h3:=HW.out.2.2.1;rw[take_length]at h3;have hl:(xs.map (·.2)).length=e.length:=by simpa using hxl
   refine bT ?_;exact ap (L:=[]) (gT HF.out.1 (gT HW.out.1 hle2)) ⟨rfl,rfl,xs.map (·.2),⟨A,c,xs,by rw[hl];rfl,by rw[hl];exact hn2,hm2,hf2,rfl,fun x hx=>(HW.out.2.1 x hx).mono hle2⟩,by rw[List.map_map];exact h3,fun m hm=>(by obtain⟨x,hx,rfl⟩:=List.mem_map.1 hm;exact HW.out.2.2.2 x hx)⟩ (show St _ _ _ _ _ _ _ from keep (Hd S3))
end
section
section
variable{P:Program}{md:Region.Mode}{ops:Array Oper}{Q:EAW}{S:World->Prop}{Z:List Nat}
def Z7g(md:Region.Mode)(ops:Array Oper)(D:List (Nat×List Nat))(fin:Array Bool):Nat->Array Bool->Bool
 |0,listed=>listed.toList==fin.toList&&D.all fun d=>fin.getD d.1 true
 |n+1,listed=>!(Region.ready md ops listed).isEmpty&&(Region.ready md ops listed).all fun i=>(D.any fun d=>d.1==i&&d.2.all fun j=>listed.getD j true)&&Z7g md ops D fin n (listed.setIfInBounds i true)
theorem flag_set(listed:Array Bool)(i:Nat):(fun j=>(listed.setIfInBounds i true).getD j true)=fun j=>listed.getD j true||j==i:=by
 funext j;by_cases h:i=j
 ·subst h;by_cases hl:i<listed.size<;>simp[hl]
 ·rw[getD_set_ne true h,show(j==i)=false by simp[Ne.symm h],Bool.or_false]
theorem par_go(D:List (Nat×List Nat))(fin:Array Bool)(Inv:(Nat->Bool)->AW)(hS:∀f a W,Inv f a W->S W)(fuel:Nat)
  (hstep:∀d∈D,∀f a W,d.2.all f=true->f d.1=false->Inv f a W->∃o,ops[d.1]?=some o/\o.guard=none/\∀K:AW,(∀a' W',Inv (fun j=>f j||j==d.1) a' W'->K a' W')->o.wp P a W K (NoPanic Q))
  (hend:∀f a W,(D.all fun d=>f d.1)=true->Inv f a W->Q0w P md ops (NoPanic Q) S Z fuel fin a W):
  ∀(n:Nat) {listed:Array Bool} {a:Act} {W:World},Z7g md ops D fin n listed=true->Inv (fun j=>listed.getD j true) a W->Q0w P md ops (NoPanic Q) S Z (fuel+n) listed a W
 |0,listed,a,W,hc,hI=>by
  simp only[Z7g,Bool.and_eq_true,beq_iff_eq]at hc;have e:listed=fin:=Array.ext' hc.1;subst e;exact hend _ a W hc.2 hI
 |n+1,listed,a,W,hc,hI=>by
  simp only[Z7g,Bool.and_eq_true,List.all_eq_true,List.any_eq_true]at hc;refine⟨fun h0=>(by rw[h0]at hc;exact absurd hc.1 b0t),fun i hi=>?_⟩;obtain⟨⟨d,hd,hdi,hdep⟩,hn⟩:=hc.2 i hi;have hdi:d.1=i:=by simpa using hdi
  subst hdi;obtain⟨o,ho,hg,hw⟩:=hstep d hd _ a W (List.all_eq_true.2 hdep) (mem_ready.1 hi).1 hI;refine wpOp_step ho fun K' hK=>?_;rw[if_pos (Q0b hg _)];refine hw K' fun a' W' hI'=>hK a' W' ⟨fun _=>hS _ _ _ hI',?_⟩;exact par_go D fin Inv hS fuel hstep hend n hn (by rw[flag_set];exact hI')
end
def Q0t(slots:List Nat)(x:Nat->Value)(a:Act):Act:={a with tmps:=a.tmps.mapIdx fun j v=>if slots.contains j then x j else v}
theorem X1e(slots:List Nat)(a:Act):Q0t slots (fun j=>a.tmps.getD j undef) a=a:=by
 cases a with
 |mk t d=>
  unfold Q0t;congr 1;apply Array.ext
  ·simp
  ·intro i h1 h2;simp only[Array.getElem_mapIdx];split
   ·simp[h2]
   ·rfl
theorem Q5o(x:Nat->Value):∀(slots:List Nat) (a:Act),Q0t slots x a=slots.foldl (fun a s=>a.put (some s) (x s)) a
 |[],a=>by
  cases a;unfold Q0t;congr 1;apply Array.ext
  ·simp
  ·intro i h1 h2;simp
 |s::l,a=>by
  rw[List.foldl_cons,<-Q5o x l];cases a with
  |mk t d=>
   unfold Q0t Act.put;simp only;congr 1;apply Array.ext
   ·simp
   ·intro i h1 h2;simp only[Array.getElem_mapIdx,List.contains_cons];have h3:i<t.size:=by simpa using h1
    by_cases hi:s=i
    ·subst hi;simp
    ·rw[Array.getElem_setIfInBounds_ne h3 hi];simp[Ne.symm hi]
theorem Z7r{slots:List Nat}{x:Nat->Value}{a:Act}{s:Nat}(hs:slots.contains s=true)(v:Value):(Q0t slots x a).put (some s) v=Q0t slots (fun j=>if j=s then v else x j) a:=by
 cases a with
 |mk t d=>
  unfold Q0t Act.put;simp only;congr 1;apply Array.ext
  ·simp
  ·intro i h1 h2;have hs':s∈slots:=by simpa using hs
   by_cases hi:s=i
   ·subst hi;simp[hs']
   ·rw[Array.getElem_setIfInBounds_ne b1d hi];simp[Ne.symm hi]
section
variable{P:Program}{md:Region.Mode}{ops:Array Oper}{Q:EAW}{S:World->Prop}{Z:List Nat}
theorem Z9y(slots:List Nat)(D:List (Nat×List Nat))(G:(Nat->Bool)->(Nat->Value)->World->Prop)(fuel n:Nat)(fin:Array Bool){listed:Array Bool}{a0:Act}{W0:World}(hc:Z7g md ops D fin n listed=true)
  (h0:∀f x,(∀j,f j=listed.getD j true)->G f x W0)(hS:∀f x W,G f x W->S W)
  (hstep:∀d∈D,∀f x W,d.2.all f=true->f d.1=false->G f x W->∃o s,ops[d.1]?=some o/\o.guard=none/\o.dst=some s/\slots.contains s=true/\∀K:AW,(∀v a' W',a'=(Q0t slots x a0).put (some s) v->G (fun j=>f j||j==d.1) (fun j=>if j=s then v else x j) W'->K a' W')->o.wp P (Q0t slots x a0) W K (NoPanic Q))
  (hend:∀f x W,(D.all fun d=>f d.1)=true->G f x W->Q0w P md ops (NoPanic Q) S Z fuel fin (Q0t slots x a0) W):Q0w P md ops (NoPanic Q) S Z (fuel+n) listed a0 W0:=by
 refine par_go D fin (fun f a W=>∃x,a=Q0t slots x a0/\G f x W) (fun f a W ⟨x,_,h⟩=>hS f x W h) fuel ?_ ?_ n hc ⟨_,(X1e slots a0).symm,h0 _ _ fun _=>rfl⟩
 ·rintro d hd f a W hf hn ⟨x,rfl,hG⟩;obtain⟨o,s,ho,hg,hds,hs,hw⟩:=hstep d hd f x W hf hn hG;refine⟨o,ho,hg,fun K hK=>hw K fun v a' W' he hG'=>hK a' W' ⟨_,by rw[he,Z7r hs],hG'⟩⟩
 ·rintro f a W hf ⟨x,rfl,hG⟩;exact hend f x W hf hG
end
end
section
def Z2x(l:List Tr)(i:Nat):Nat:=((l.take i).map nodesT).sum
theorem Z3w{l:List Tr}{i:Nat}{u:Tr}(h:l[i]?=some u):Z2x l (i+1)=Z2x l i+nodesT u:=take_sum nodesT h
theorem Z8b(l:List Tr)(i:Nat):Z2x l i<=(l.map nodesT).sum:=X3u nodesT l i
theorem X5l(l:List Tr):Z2x l l.length=(l.map nodesT).sum:=by unfold Z2x;rw[take_length]
def NodesH(N:Nat):Prop:=∀(J:Gh) (v:V6) (t:Tr) (w:World),t.bulk<N->J.In w->VIs J v t.iv->Calls prog 83 #[v.agg] w (Got Nix J w (.int .i64 (nodesT t:Nat)))
theorem nodes_0(I:Gh)(k n:Int)(h5:(k==5)=false)(h6:(k==6)=false)(f:Nat)(s:BA)(a1:OA)(n1 c1:Nat)(a2:OA)(n2 c2:Nat)(w:World)(hi:I.In w):
  Calls prog 83 #[.agg (L0e k n f s a1 n1 c1 a2 n2 c2).toArray] w (Got Nix I w (.int .i64 1)):=by
 go_enter func83,ntmps83;go_wp2_with fail
 go_ret;exact⟨rfl,(Step.refl hi).alloc _⟩
theorem z1d{P:Prop}(h:P:=by
 have HA:=Hd ha;have H2:=Hd h2;have HB:=Hd hb;have HS:=Hd hsum;clear ha h2 hb hsum;go_enter func83,ntmps83;go_wp2_with fail
 go_loopg [3,17] l.length (fun g x y wr=>∃i:Nat,x=.int .i64 (1+Z2x l i:Nat)/\y=.int .i64 (i:Nat)/\i<=l.length/\g=l.length -i/\Step Nix I I w wr)
 case atStart=>exact⟨0,rfl,rfl,Nat.zero_le _,rfl,(Step.refl hi).alloc _⟩
 case round=>
  obtain⟨i,rfl,rfl,hil,hg,st⟩:=hrel;have hS1:=Nat.le_trans (Z8b l i) HS.out;by_cases hlt:i<l.length
  ·obtain⟨u,hu⟩:∃u,l[i]?=some u:=gx hlt;obtain⟨v,hv⟩:∃v,vs[i]?=some v:=gx b1l;obtain⟨b2,o2,rfl,hs2⟩:∃b o,a2=some ⟨b,o,none⟩/\Six I b (o+i*6) v:=by
    rcases H2.out with⟨_,e⟩|⟨b,o,e,h⟩
    ·rw[e]at hv;simp at hv
    ·exact⟨b,o,e,h i v hv⟩
   have d:=hs2.at st.inw;have hV:=HA.out.get hv hu;have hBu:=HB.out u (List.mem_of_getElem? hu);have hS2:=Nat.le_trans (Z8b l (i+1)) HS.out;rw[Z3w hu]at hS2;have q1:=heap_alloc_new wr (.cells L0c.toArray 35);have q2:=setRow_heap _ wr.heap.size _ (L0a v).toArray 35 (0,0) q1;have hsz:=st.size;have st1:=(st.alloc (.cells L0c.toArray 35)).setRow (st.inw.none (Nat.le_refl _)) (fun hb=>absurd hb om) (L0a v).toArray;have S1:=Hd st1;have HX:=Hd (nd3 hg (Z3w hu) hV);clear hu hv hs2 hg st st1 hV;go_wp2_with (first|refine Q3h rf _ rf b2 (o2+i*6) rf _ _ _ _ _ _ d ?_|refine wpList_store_row rf 35 _ _ rf wr.heap.size (L0a v).toArray rf rf 35 _ q1 sz35 rfl (one6 rfl rfl rfl rfl rfl rfl) ?_|refine wpList_load_row rf 35 _ rf wr.heap.size rf 35 _ _ _ q2 underlying35 rfl sz35 ?_)
   refine(HC I v u _ hBu S1.out.inw HX.out.2.2).mono ?_;rintro e w2 ⟨rfl,st2⟩;have S2:=Hd (S1.out.trans0 st2);clear st2 d q1 q2;go_wp2_with fail
   go_roundg (l.length -(i+1))
   case measure=>have:=HX.out.1;omega
   case rel=>exact⟨i+1,by rw[HX.out.2.1];congr 1;omega,rfl,by omega,rfl,S2.out⟩
  ·obtain rfl:i=l.length:=by omega
   have ST:=Hd st;clear hg st;go_wp2_with fail
   go_ret;exact⟨by rw[X5l];rfl,ST.out⟩):P:=h
theorem nodes_5(N:Nat)(HC:NodesH N)(I:Gh)(n:Int)(f:Nat)(s:BA)(a1:OA)(n1 c1:Nat)(a2:OA)(c2:Nat)(vs:List V6)(l:List Tr)(w:World)(hi:I.In w)(hm:l.length<=2 ^ 32)(hsum:(l.map nodesT).sum<=2 ^ 32)(h2:Q6n I a2 vs)(ha:All2 (fun v u=>VIs I v u.iv) vs l)(hb:∀u,u∈l->u.bulk<N):
  Calls prog 83 #[.agg (L2j n f s a1 n1 c1 a2 l.length c2).toArray] w (Got Nix I w (.int .i64 (1+(l.map nodesT).sum:Nat))):=by
 exact z1d
theorem nodes_6(N:Nat)(HC:NodesH N)(I:Gh)(n:Int)(f:Nat)(s:BA)(a1:OA)(n1 c1:Nat)(a2:OA)(c2:Nat)(vs:List V6)(l:List Tr)(w:World)(hi:I.In w)(hm:l.length<=2 ^ 32)(hsum:(l.map nodesT).sum<=2 ^ 32)(h2:Q6n I a2 vs)(ha:All2 (fun v u=>VIs I v u.iv) vs l)(hb:∀u,u∈l->u.bulk<N):
  Calls prog 83 #[.agg (L1i n f s a1 n1 c1 a2 l.length c2).toArray] w (Got Nix I w (.int .i64 (1+(l.map nodesT).sum:Nat))):=by
 exact z1d
theorem X0n:∀N,N<=2 ^ 32->NodesH N
 |0,_=>fun J v t w hx _ _=>absurd hx (Nat.not_lt_zero _)
 |N+1,hN=>fun J v t w hx hi hv=>by
  have HC:=X0n N om;have hk:=nodes_kids t;have hbulk:=Z3s t;have hlen:=Z0e t;have hb:∀u,u∈t.kids->u.bulk<N:=fun u hu=>by have:=Z1i hu;omega
  obtain⟨a1,c1,a2,c2,vs,rfl,h1,hn,h2,ha,_⟩:=hv.kids;rw[hk];cases t with
  |list l=>exact nodes_5 N HC J _ _ _ a1 _ c1 a2 c2 vs l w hi b1n (by simp only[Tr.kids]at hk;omega) h2 ha hb
  |map m=>exact nodes_6 N HC J _ _ _ a1 _ c1 a2 c2 vs (m.map (fun p:BA×Tr=>p.2)) w hi b1n (by simp only[Tr.kids]at hk;omega) h2 ha hb
  |_=>exact nodes_0 J _ _ rfl rfl _ _ a1 _ c1 a2 _ c2 w hi
theorem nodes_x{I:Gh}{v:V6}{t:Tr}(hv:VIs I v t.iv)(hx:t.bulk<2 ^ 32)(w:World)(hi:I.In w):Calls prog 83 #[v.agg] w (Got Nix I w (.int .i64 (nodesT t:Nat))):=
 X0n (2 ^ 32) (Nat.le_refl _) I v t w hx hi hv
end
section
section
variable{P:Program}{md:Region.Mode}{ops:Array Oper}{Q:EAW}{S:World->Prop}{Z:List Nat}
theorem X8u(slots:List Nat)(D:List (Nat×List Nat))(G:(Nat->Bool)->(Nat->Value)->World->Prop)(fuel n:Nat)(fin:Array Bool){listed:Array Bool}{a0:Act}{W0:World}(hc:Z7g md ops D fin n listed=true)
  (h0:∀f x,(∀j,f j=listed.getD j true)->G f x W0)(hS:∀f x W,G f x W->S W)
  (hstep:∀d∈D,∀f x W,d.2.all f=true->f d.1=false->G f x W->∃o,ops[d.1]?=some o/\o.guard=none/\((∃s,o.dst=some s/\slots.contains s=true/\∀K:AW,(∀v a' W',a'=(Q0t slots x a0).put (some s) v->G (fun j=>f j||j==d.1) (fun j=>if j=s then v else x j) W'->K a' W')->o.wp P (Q0t slots x a0) W K (NoPanic Q))\/∀K:AW,(∀W',G (fun j=>f j||j==d.1) x W'->K (Q0t slots x a0) W')->o.wp P (Q0t slots x a0) W K (NoPanic Q)))
  (hend:∀f x W,(D.all fun d=>f d.1)=true->G f x W->Q0w P md ops (NoPanic Q) S Z fuel fin (Q0t slots x a0) W):Q0w P md ops (NoPanic Q) S Z (fuel+n) listed a0 W0:=by
 refine par_go D fin (fun f a W=>∃x,a=Q0t slots x a0/\G f x W) (fun f a W ⟨x,_,h⟩=>hS f x W h) fuel ?_ ?_ n hc ⟨_,(X1e slots a0).symm,h0 _ _ fun _=>rfl⟩
 ·rintro d hd f a W hf hn ⟨x,rfl,hG⟩;obtain⟨o,ho,hg,⟨s,hds,hs,hw⟩|hw⟩:=hstep d hd f x W hf hn hG
  ·exact⟨o,ho,hg,fun K hK=>hw K fun v a' W' he hG'=>hK a' W' ⟨_,by rw[he,Z7r hs],hG'⟩⟩
  ·exact⟨o,ho,hg,fun K hK=>hw K fun W' hG'=>hK _ W' ⟨x,rfl,hG'⟩⟩
 ·rintro f a W hf ⟨x,rfl,hG⟩;exact hend f x W hf hG
theorem ext_v{o:Oper}{a:Act}{x:Operand}{W:World}{vs:Array Value}{i:Nat}{v:Value}(ho:o.op=.extract x i)(hx:a.eval x=.tuple vs)(hv:vs[i]?=some v):(execOp a.eval o).run P W=.ok (.value v) W:=by
 simp[execOp,ho,hx,Instr.extract,hv]
theorem Z4r{slots:List Nat}{x:Nat->Value}{a:Act}{j:Nat}{v:Value}(hs:slots.contains j=true)(hj:decide (j<a.tmps.size)=true)(hx:x j=v):(Q0t slots x a).eval (.tmp j)=v:=by
 subst hx;have hj:=of_decide_eq_true hj;have hs':j∈slots:=by simpa using hs
 simp[Q0t,Act.eval,hj,hs']
theorem put_none{a:Act}{o:Oper}{v:Value}{K:AW}{W:World}(h:o.dst=none)(hk:K a W):K (a.put o.dst v) W:=by
 rw[h];exact hk
end
end
end Go.Proofs.YtbmklgemmjgjfaaGreat
