/- Part 39: Vmo, Rcn, Ver. -/
import Derived.Test.YtbmklgemmjgjfaaGreatT35
import Derived.Test.YtbmklgemmjgjfaaGreatT38
namespace Go.Proofs.YtbmklgemmjgjfaaGreat
open List (append_nil cons_append nil_append)
open Go.RowKit Go.Maps Tryz
set_option linter.unusedVariables false
set_option linter.unusedSimpArgs false
set_option maxRecDepth 100000
set_option maxHeartbeats 16000000
variable{J:Gh}{sb tb nb st:Nat}
section
theorem X7y{v:Value}{k:Nat}(hk:AK v k):Ac 110 #[v] J [] [] fun u K L' R'=>K=J/\R'=[]/\∃vb,u=Q3q vb/\L'=[(vb,[v],.t 430)]:=fun M I w W S=>by
 refine(newValue_x v k hk W).mono ?_;rintro e W' ⟨rfl,rfl⟩;exact ap gR ⟨rfl,rfl,W.heap.size+1,rfl,rfl⟩ ((S.out.allocO _).alloc (W.heap.size+1) (by unfold World.alloc;exact(Array.size_push _).symm) [v] 430)
variable{tl tr:Tr}{ul ur:Value}{vl nl vr nr:Nat}
theorem mrg_s{y:Nat}(hsz:tl.size+tr.size<2 ^ 29)(hal:Q2d tl tr=true)(hnl:Q1i tl=true)(hnr:Q1i tr=true)(htl:Q0r J ul tl)(htr:Q0r J ur tr)(hvl:J.cell (ad vl 0) ul)(hvr:J.cell (ad vr 0) ur)(hs:Q2c J sb)(hn1:Nm J nl nmDe)(hn2:Nm J nr nmDe)
  (htb:J tb=some (.cells (Q1n vr nr sb).toArray 367 (0,0))):
  Ac 181 #[pt y,pt tb,.func (.func 182) #[] #[],.nilFunc] J [(y,Q1n vl nl sb,.t 367)] []<|N0 fun u K=>∃t2 vb val,u=.tuple #[pt t2,.nilIface]/\K t2=some (.cells (Q1n vb nl sb).toArray 367 (0,0))/\K.cell (ad vb 0) val/\Q0r K val (Q0d tl tr):=by
 intro M I w W S;have HT:Hid (∀(i:Nat) u,(Q1n vr nr sb)[i]?=some u->J.cell (ad tb i) u):=Hd fun i u h=>⟨_,_,_,htb,rfl,by simpa using h⟩
 have HV:=Hd (nd6 (nd4 hsz hal hnl hnr) (And.intro htl htr) (And.intro hvl hvr) hs trivial (And.intro hn1 hn2));clear hsz hal hnl hnr htl htr hvl hvr hs hn1 hn2 htb;simp only[Q1n]at HT S;go_enter func181,ntmps181;go_wp2_with fail
 refine Rg S [(y,L1c vl nl sb,.t 367)] [] [] [0,1,2,3,4,5,6,7,8] 0 fun W S=>?_;refine tk31 ?_;refine En ?_;go_wp2_with fail
 refine Rg S [] [] [] [0,1,2,3,4,5] 2 fun W S=>?_;refine Zw [7] 0 6 ?_;intro KK hKK;go_simp;refine Q0a S (Z8o (L:=[(y,L1c vl nl sb,.t 367)]) (b1:=y) (o1:=1) (b2:=tb) (o2:=1) (Sees.blk (List.mem_cons_self ..) fun i u h=>b0l) (Sees.frz fun i u h=>HT.out (1+i) u b0l) HV.out.2.2.2.2.2.1 HV.out.2.2.2.2.2.2) ?_;rintro r5 K5 L5 R5 W5 hle5 ⟨hKJ,rfl,rfl,rfl⟩ S2;have hJK:=hKJ.symm;subst hJK;clear S;have S:=S2;clear S2;replace S:=sa S;refine Et ?_;go_wp2_with (first|go_at_call 113;refine(Q0g (Q7s _) S.out.inw).mono ?_;rintro e W' ⟨rfl,st⟩;(obtain⟨al,hal⟩:∃al,al=W.heap.size:=⟨_,rfl⟩);rw[<-hal];clear hal;replace S:=Hd (S.out.call st);clear st|refine wk ?_|refine wlf (HT.out 0 _ rfl) S ?_|refine Ws ?_;clear S;intro W S|refine wn ?_;clear S;intro b W S)
 replace S:=Hd (S.out.nilrow 358 4);have hcall:=mall (tl.size+tr.size) J (some ul) (some ur) (some tl) (some tr) vl vr [] (.some ul tl vl HV.out.2.1.1 (.inl HV.out.2.2.1.1) HV.out.1.2.2.1) (.some ur tr vr HV.out.2.1.2 (.inl HV.out.2.2.1.2) HV.out.1.2.2.2) (.inl rfl) (fun x y e1 e2=>by cases e1;cases e2;exact HV.out.1.2.1) (Nat.le_refl _)
  (tl.size+tr.size) b sb nl al 0 0 none [] [] [] none 0 (Nat.le_refl _) ⟨Nat.zero_le _,by have:=HV.out.1.1;omega⟩ HV.out.2.2.2.1 HV.out.2.2.2.2.2.1 .nil rfl (by have:=HV.out.1.1;simp only[osz];omega)
 simp only[vif_s,mc,pathRw,List.flatMap_nil,nil_append,append_nil]at hcall;refine Q0a S hcall ?_;clear hcall;rintro r K2 L' R2 W' hle2 ⟨rfl,o,val,il,n2,sp2,PB2,PR2,pa2,pc2,hn2,hsp2,hp2,ho,hv,rfl,rfl⟩ S2;have HP:=Hd (And.intro hv hle2);have HK:=Hd hv.ak;have ho2:K2.cell (ad o 0) val:=ho;clear S hn2 hsp2 hp2 ho hv;have S:=S2;clear S2;simp only[mc,cons_append,nil_append,append_nil,List.append_assoc,pathRw]at S;go_wp2_with (refine wk ?_)
 refine Rg S [(y,L1c vl nl sb,.t 367)] [] [] [0,1,2,3,4,5,6,7,8] 2 fun W S=>?_;refine Zw [10] 0 9 ?_;intro KK hKK;refine Z6g (sub:=[.nilIface,pt nl,pn,pn,pn,pn,.bool false,pt sb]) S rfl rfl ?_;clear S;intro t2 W S;refine Et ?_;go_wp2_with (first|go_at_call 110;refine Q0a S (X7y HK.out) ?_;rintro r6 K6 L6 R6 W6 hle6 ⟨hKJ,rfl,vb,rfl,rfl⟩ S2;have hJK:=hKJ.symm;subst hJK;clear S;have S:=S2;clear S2;simp only[cons_append,nil_append,append_nil]at S|refine wk ?_|refine wlf ho2 S ?_|refine Ws ?_;clear S;intro W S)
 have S9:=Lib.front S [(t2,L1c vb nl sb,.t 367),(vb,[val],.t 430)] [];simp only[cons_append,nil_append]at S9;obtain⟨K3,hle3,hk3,S10⟩:=S9.out.freeze;obtain⟨K4,hle4,hk4,S11⟩:=S10.freeze;have S12:=Hd S11;refine bT ?_;exact ap (gT (gT HP.out.2 hle3) hle4) ⟨rfl,rfl,t2,vb,val,rfl,hle4 _ _ hk3,⟨_,_,_,hk4,rfl,rfl⟩,(HP.out.1.mono hle3).mono hle4⟩ (show St _ _ _ _ _ [] []from keep S12)
theorem mergeTop_s(hsz:tl.size+tr.size<2 ^ 29)(hal:Q2d tl tr=true)(hnl:Q1i tl=true)(hnr:Q1i tr=true)(htl:Q0r J ul tl)(htr:Q0r J ur tr)(hvl:J.cell (ad vl 0) ul)(hvr:J.cell (ad vr 0) ur)(hs:Q2c J sb)(hn1:Nm J nl nmDe)(hn2:Nm J nr nmDe)
  (htb:J tb=some (.cells (Q1n vr nr sb).toArray 367 (0,0))):
  Ac 126 #[Q9e vl nl sb,pt tb] J [] []<|N0 fun u K=>∃t2 vb val,u=.tuple #[pt t2,.nilIface]/\K t2=some (.cells (Q1n vb nl sb).toArray 367 (0,0))/\K.cell (ad vb 0) val/\Q0r K val (Q0d tl tr):=by
 intro M I w W S;have HC:=fun y=>mrg_s (y:=y) hsz hal hnl hnr htl htr hvl hvr hs hn1 hn2 htb;have HC:=Hd HC;clear hsz hal hnl hnr htl htr hvl hvr hs hn1 hn2 htb;unfold Q9e;simp only[Q1n]at HC;go_enter func126,ntmps126;go_wp2_with (first|refine wk ?_|refine wn ?_;clear S;intro y W S)
 refine Q0a S (HC.out y) ?_;rintro r5 K5 L5 R5 W' hle5 ⟨rfl,rfl,t2,vb,val,rfl,hpost⟩ S2;have hpost:=Hd hpost;clear S;have S:=S2;clear S2;go_wp2_with fail
 refine bT ?_;exact ap hle5 ⟨rfl,rfl,t2,vb,val,rfl,hpost.out⟩ (keep S)
end
section
theorem nm_isD:(nmDe.toList==[95,95,117,110,116,121,112,101,100,95,100,101,100,117,99,101,100,95])=true:=by kernel_rfl
@[go_sem] theorem eqs334(w:World):(binOp .eql 334 (sn) (sn)).run prog w=.ok (.bool true) w:=by kernel_rfl
variable{b s l m:Nat}
theorem isDedRef_x(hn:Nm J nb nmDe)(w:World)(hi:J.In w):Calls prog 421 #[Q0v nb] w (Got Nix J w (.bool true)):=by
 unfold Q0v;refine Q0c (M:=Nix) hi ?_;intro W S;have hnm:=nm_isD;have hc:=hn.1;clear hn;go_enter func421,ntmps421;go_wp2_with (first|refine wk ?_|refine wlf hc S ?_|refine wn ?_;clear S;intro y W S)
 go_ret;exact⟨rfl,S.out.step⟩
theorem isDedMap_x{mp nb2:Nat}(hn:Nm J nb2 nmDe)(hmp:J mp=some (.cells (L1a nb2 Q6r).toArray 337 (0,0)))(w:World)(hi:J.In w):Calls prog 413 #[pt mp] w (Got Nix J w (.bool true)):=by
 refine Q0c (M:=Nix) hi ?_;intro W S;have HF:Hid (∀(i:Nat) u,((L1b nb2):List Value)[i]?=some u->J.cell (ad mp (2+i)) u):=Hd fun i u hu=>by
  refine⟨_,_,_,hmp,rfl,?_⟩;match i,hu with
  |0,h|1,h|2,h|3,h|4,h|5,h=>simpa using h
  |i+6,h=>simp at h
 have hc0:J.cell (ad mp 0) (sn):=⟨_,_,_,hmp,rfl,rfl⟩
 have HN:=Hd hn;clear hn hmp;go_enter func413,ntmps413;go_wp2_with (first|go_at_call 421;refine got S (isDedRef_x HN.out) ?_;clear S;intro W S|refine X9l (sub:=(L1b nb2)) rf rfl rfl rfl HF.out S.out.inw ?_|refine wl_frz (by first|exact Q0b rf _|rfl) rfl rfl hc0 S.out.inw ?_)
 go_ret;exact⟨rfl,S.out.step⟩
theorem dmap_s(ha:Q3a J s l m true):Ac 410 #[pt b,pt m] J [(b,L1h tb sb st nb,.t 413)] [] fun u K L' R'=>K=J/\u=sn/\L'=[(b,L1h tb sb st nb,.t 413)]/\R'=[]:=by
 intro M I w W S;obtain⟨_,_,n2,h1,h2⟩:=ha;have HA:=Hd (And.intro h1 h2);clear h1 h2;go_enter func410,ntmps410;go_wp2_with (go_at_call 413;refine got S (isDedMap_x HA.out.1 HA.out.2) ?_;clear S;intro W S)
 exact e0n
variable{R:List Rw}{L:List Blk}
theorem X4g{Post:Value->Gh->List Blk->List Rw->Prop}
  (h:Ac 410 #[pt b,pt m] J L R Post):
  Ac 257 #[Q1j s l m,Q0v nb,.iface 410 (pt b)] J L R Post:=by
 unfold Q0v Q1j;intro M I w W S;have HA:=Hd h;clear h;go_enter func257,ntmps257;go_wp2_with (first|refine wk ?_|refine Ws ?_;clear S;intro W S|refine wn ?_;clear S;intro _ W S)
 refine Q0a S HA.out ?_;rintro r K L' R' W' hle hp S2;have hp:=Hd hp;clear S;have S:=S2;clear S2;go_wp2_with fail
 go_ret;exact ap hle hp.out (keep S)
theorem z1f{P:Prop}(h:P:=by
 refine Q0y (sub:=(L1o sc l m)) S rfl rfl rfl rfl ?_;clear S;intro W S;refine Et ?_;try refine yp ?_
 exact hk z1 sc l m _ ⟨ha,S⟩):P:=h
theorem X3w(hs:Q2c J sb)(hn:Nm J nb nmDe):Ac 209 #[pt b] J [(b,L1h tb sb st nb,.t 413)] [] fun u K L' R'=>K=J/\u=sn/\L'=[(b,L1h tb sb st nb,.t 413)]/\R'=[]:=by
 intro M I w W S;have HS:=Hd (And.intro hs hn);clear hs hn;go_enter func209,ntmps209;go_wp2_with fail
 refine Rg S [(b,L1h tb sb st nb,.t 413)] [] [] [0,1,2,3,4,5,6,7] 7 fun W S=>?_;refine tk1 ?_;apply Z6c (fun z1 sc l m W=>Q3a J sc l m true/\Hid (St M I J w W ((z1,L1o sc l m,.t 111)::[(b,L1h tb sb st nb,.t 413)]) []))
 ·intro hk;refine Q6o [9,10,11] [] 3 6 (i:=8) (j:=12) kr rfl rfl kr rfl rfl kr kr (fun KK hKK=>?_) (fun KK hKK=>?_)
  ·go_simp;refine(Q5q J sb nb true HS.out.1 HS.out.2 _ S.out.inw).mono ?_;rintro e W ⟨sc,l,m,rfl,ha,st⟩;replace S:=Hd (S.out.call st);clear st;unfold Q1j;refine Tw [] 2 12 ?_;intro KK hKK;refine Q3c S rfl ?_;clear S;intro z1 W S;refine Yw [14] 0 13 ?_;intro KK hKK;exact z1f
  ·refine Q3c S rfl ?_;clear S;intro z1 W S;refine Yw [9,10,11] 2 8 ?_;intro KK hKK;go_simp;refine(Q5q J sb nb true HS.out.1 HS.out.2 _ S.out.inw).mono ?_;rintro e W ⟨sc,l,m,rfl,ha,st⟩;replace S:=Hd (S.out.call st);clear st;unfold Q1j;refine Tw [14] 0 13 ?_;intro KK hKK;exact z1f
 clear S;rintro z1 sc l m W ⟨ha,S⟩;have ha:=Hd ha;go_wp2_with (refine wk ?_)
 refine Rg S [(b,L1h tb sb st nb,.t 413),(z1,L1o sc l m,.t 111)] [] [] [0,1,2,3,4,5,6] 2 fun W S=>?_;refine Zw [8] 0 7 ?_;intro KK hKK;go_simp;have hh:=X4g (b:=b) (nb:=nb) (s:=sc) (l:=l) (m:=m) (dmap_s (tb:=tb) (sb:=sb) (st:=st) (nb:=nb) ha.out);simp only[Q1j,Q0v]at hh;refine Q0a S hh ?_;rintro r5 K5 L5 R5 W' hle5 ⟨hKJ,rfl,rfl,rfl⟩ S2;have hJK:=hKJ.symm;subst hJK;clear S;have S:=S2;clear S2;replace S:=sa S;refine Et ?_;go_wp2_with (refine wk ?_)
 go_ret;exact ap gR ⟨rfl,rfl,rfl,rfl⟩ (show St _ _ _ _ _ [(b,L1h tb sb st nb,.t 413)] []from keep S)
theorem X4o{M:Nat->Prop}{I:Gh}{w W:World}{u:FrameMode}(S:Hid (St M I J w W ((b,L1h tb sb st nb,.t 413)::L) R)):
  CallsD prog 208 #[pt b] u W fun e u' W'=>u'=u/\e=.returned (.tuple #[])/\∃cs,Hid (St M I J w W' ((b,cs,.t 413)::L) R):=by
 go_enter_d func208,ntmps208;go_wp2_with (first|refine wk ?_|refine Ws ?_;clear S;intro W S)
 go_end0;exact⟨rfl,_,S⟩
theorem recTop_s{vb:Nat}(hs:Q2c J sb)(hn:Nm J nb nmDe)(htb:J tb=some (.cells (Q1n vb nb sb).toArray 367 (0,0))):Ac 150 #[pt st,pt tb] J [] [] fun u K L' R'=>K=J/\u=.tuple #[pn,.nilIface]/\L'=[]/\R'=[]:=by
 intro M I w W S;have HT:Hid (∀(i:Nat) u,(Q1n vb nb sb)[i]?=some u->J.cell (ad tb i) u):=Hd fun i u h=>⟨_,_,_,htb,rfl,by simpa using h⟩
 have HR:Hid (∀(i:Nat) u,((L1b nb):List Value)[i]?=some u->J.cell (ad tb (1+i)) u):=Hd fun i u hu=>HT.out (1+i) u (by
  match i,hu with
  |0,h|1,h|2,h|3,h|4,h|5,h=>simpa[Q1n]using h
  |i+6,h=>simp at h)
 have HS:=Hd (And.intro hs hn);clear hs hn htb;simp only[Q1n]at HT;go_enter_defers func150,ntmps150;go_wp2_with (first|go_at_call 209;refine Q0a S (X3w (b:=b) (tb:=tb) (sb:=sb) (st:=st) (nb:=nb) HS.out.1 HS.out.2) ?_;rintro r5 K5 L5 R5 W' hle5 ⟨hKJ,rfl,rfl,rfl⟩ S2;have hJK:=hKJ.symm;subst hJK;clear S;have S:=S2;clear S2;simp only[cons_append,nil_append,append_nil]at S|refine wk ?_|refine wl_frz (by first|exact Q0b rf _|rfl) rfl rfl (HT.out 7 _ rfl) S.out.inw ?_|refine X9l (sub:=(L1b nb)) rf rfl rfl rfl HR.out S.out.inw ?_|refine Ws ?_;clear S;intro W S|refine wn ?_;clear S;intro b W S)
 refine leaves_cons (f:=208) (args:=#[pt b]) b0f (by simp[go_sem,Go.MuLone.run_callFunc_enter func208 kr rfl]) ?_;refine(X4o (b:=b) (tb:=tb) (sb:=sb) (st:=st) (nb:=nb) S).mono ?_;rintro e u' w'' ⟨rfl,rfl,cs,S⟩;exact⟨_,results_tmp2 rfl _ _ _,ap gR ⟨rfl,rfl,rfl,rfl⟩ (show St _ _ _ _ _ [] []from keep S)⟩
end
section
section
variable{w:World}{ops:Array Oper}{rest:List Oper}{o:Oper}{a:Act}{Q:EAW}
theorem z1z{P:Prop}(h:P:=by
 have h1:DataW.held v=(DM M).atKey (klit s) (.held z):=by simpa[RV]using congrArg (Option.map Prod.fst) hv
 exact e0o):P:=h
theorem X3a(z:Value)(hg:o.guard=none)(m x:Operand)(t e:TypeId)(hop:o.op=Op.lookup t m x true)(ht:prog.underlying t=some (.map 9 e))
  (hz:∀w:World,(zeroValue e).run prog w=.ok z w)(r:Nat)(M:KV)(hm:a.eval m=.map (some r))(hown:Q3z w r M)
  (s:BA)(hx:a.eval x=.string s)(hs:s.size<=maxLen)
  (hK:wpList prog ops Q rest (a.put o.dst (.tuple #[(findK M s).getD z,.bool (findK M s).isSome])) w):wpList prog ops Q (o::rest) a w:=by
 refine wpList_lookup_own_ok w hg m x t hop 9 e law9 ht RV (hz w) (.held z) [] rfl r M.length (DM M) hm hown (.string s) (klit s) hx (key9 hs) fun v ps hv=>?_;have e1:v=(findK M s).getD z:=by
  exact z1z
 rw[X9i,e1];exact hK
theorem Q6x(z:Value)(hg:o.guard=none)(m x:Operand)(t e:TypeId)(hop:o.op=Op.lookup t m x false)(ht:prog.underlying t=some (.map 9 e))
  (hz:∀w:World,(zeroValue e).run prog w=.ok z w)(r:Nat)(M:KV)(hm:a.eval m=.map (some r))(hown:Q3z w r M)
  (s:BA)(hx:a.eval x=.string s)(hs:s.size<=maxLen)
  (hK:wpList prog ops Q rest (a.put o.dst ((findK M s).getD z)) w):wpList prog ops Q (o::rest) a w:=by
 refine wpList_plain hg fun K' hK'=>?_;obtain⟨v,ps,hrun,hv⟩:=World.ownsMap.lookup hown law9 ht (hz w) (zd:=.held z) (zp:=[]) rfl (key9 hs);have e1:v=(findK M s).getD z:=by
  exact z1z
 unfold Oper.wp;simp[execOp,hop,hm,hx,hrun,Result.andThen];rw[e1];exact hK' _ _ hK
end
theorem zer4(w:World):(zeroValue 4).run prog w=.ok (.bool false) w:=by kernel_rfl
def refZ:Value:=.agg #[pn,pn,pn,pn,pn,.bool false]
theorem zer114(w:World):(zeroValue 114).run prog w=.ok refZ w:=by kernel_rfl
def Q4o(st:Nat)(v:BA)(ap:Bool):Value:=.agg #[pt st,.string v,.bool ap]
def vsV(st:Nat)(v:BA)(ap:Bool):Value:=.iface 306 (Q4o st v ap)
variable{ap:Bool}{v:BA}{rs rm:Nat}{K:Gh}
theorem z1y{P:Prop}(h:P:=by
 go_wp2_with (first|refine wk ?_|refine wn ?_;clear S;intro y W S)
 go_ret;exact⟨rfl,S.out.step⟩):P:=h
theorem Q8q(w:World)(hi:J.In w):Calls prog 364 #[Q4o st v ap] w (Got Nix J w (pt st)):=by
 unfold Q4o;refine Q0c (M:=Nix) hi ?_;intro W S;go_enter func364,ntmps364;exact z1y
theorem Q9n(w:World)(hi:J.In w):Calls prog 362 #[Q4o st v ap] w (Got Nix J w (.string v)):=by
 unfold Q4o;refine Q0c (M:=Nix) hi ?_;intro W S;go_enter func362,ntmps362;exact z1y
theorem X4a(w:World)(hi:J.In w):Calls prog 363 #[Q4o st v ap] w (Got Nix J w (.bool ap)):=by
 unfold Q4o;refine Q0c (M:=Nix) hi ?_;intro W S;go_enter func363,ntmps363;exact z1y
theorem Z0v(w:World)(hi:J.In w):Calls prog 99 #[pt st,.string v,.bool ap] w (Got Nix J w (vsV st v ap)):=by
 unfold vsV Q4o;refine Q0c (M:=Nix) hi ?_;intro W S;go_enter func99,ntmps99;go_wp2_with fail
 go_ret;exact⟨rfl,S.out.step⟩
theorem Z1k{vb:Nat}(w:World)(hi:J.In w):Calls prog 130 #[Q9e vb nb sb] w (Got Nix J w (Q3q vb)):=by
 unfold Q9e Q3q;refine Q0c (M:=Nix) hi ?_;intro W S;go_enter func130,ntmps130;exact z1y
def Q2z(sb nb rs rm:Nat):Value:=.agg #[sn,pt sb,pt nb,pn,pn,pn,pn,.bool false,.map (some rs),.map (some rm)]
structure Z5n(J:Gh)(sb nb rs rm:Nat):Prop where
 s:Q2c J sb
 n:Nm J nb nmDe
 sp:J.map rs []
 ms:J.map rm []
theorem Z5n.mono(h:Z5n J sb nb rs rm)(l:J.le K):Z5n K sb nb rs rm:=⟨h.s.mono l,h.n.mono l,h.sp.mono l,h.ms.mono l⟩
theorem Z9e(h:Z5n J sb nb rs rm)(hv:v.size<=maxLen)(w:World)(hi:J.In w):Calls prog 49 #[Q2z sb nb rs rm,.string v] w (Got Nix J w (Q0v nb)):=by
 unfold Q2z Q0v;have HV:=Hd (And.intro h hv);clear h hv;refine Q0c (M:=Nix) hi ?_;intro W S;go_enter func49,ntmps49;go_wp2_with (first|at_lookup;refine X3a refZ rfl _ _ 115 114 rfl underlying115 zer114 rs [] rfl (HV.out.1.sp.at S.out.inw) v rfl HV.out.2 ?_;simp only[show findK ([]:KV) v=none from rfl,Option.getD_none,Option.isSome_none,refZ]|refine wk ?_|refine Ws ?_;clear S;intro W S|refine wA ?_;clear S;intro _ W S|refine wB ?_;clear S;intro y W S)
 refine bT ?_;exact⟨rfl,S.out.step⟩
@[go_sem] theorem ta566n(xT:TypeId)(w:World):(Instr.typeAssert .nilIface xT 566 true).run prog w=.ok (.tuple #[.agg #[],.bool false]) w:=Z5h underlying566 rfl kr xT w
instance :Tsz prog 566 0 true:={}
instance :Tze prog 566 []:=⟨.inl kr⟩
theorem isMiss_x(w:World)(hi:J.In w):Calls prog 318 #[Q2z sb nb rs rm,.nilIface] w (Got Nix J w (.bool false)):=by
 unfold Q2z;refine Q0c (M:=Nix) hi ?_;intro W S;go_enter func318,ntmps318;go_wp2_with (first|refine wk ?_|refine Ws ?_;clear S;intro W S|refine wA ?_;clear S;intro z W S|refine wB ?_;clear S;intro y W S)
 go_ret;exact⟨rfl,S.out.step⟩
def TvIs(J:Gh)(tb sb nb:Nat)(t:Tr):Prop:=∃vb v,J tb=some (.cells (Q1n vb nb sb).toArray 367 (0,0))/\J.cell (ad vb 0) v/\Q0r J v t
variable{t:Tr}
theorem TvIs.mono(h:TvIs J tb sb nb t)(l:J.le K):TvIs K tb sb nb t:=by
 obtain⟨vb,v,h1,h2,h3⟩:=h;exact⟨vb,v,l _ _ h1,h2.mono l,h3.mono l⟩
theorem convert_s{n2:Nat}(h:Z5n J sb nb rs rm)(ht:TvIs J tb sb n2 t)(hv:v.size<=maxLen):Ac 317 #[Q2z sb nb rs rm,pt tb,.string v] J [] []<|N0 fun u K=>∃t2,u=.tuple #[pt t2,.nilIface]/\TvIs K t2 sb nb t:=by
 intro M I w W S;obtain⟨vb,a,h1,h2,h3⟩:=ht;have HT:Hid (∀(i:Nat) u,(Q1n vb n2 sb)[i]?=some u->J.cell (ad tb (0+i)) u):=Hd fun i u h=>⟨_,_,_,h1,rfl,by simpa using h⟩
 have HV:=Hd (nd4 h hv h2 h3);clear h hv h1 h2 h3;unfold Q2z;simp only[Q1n]at HT;go_enter func317,ntmps317;go_wp2_with (first|at_lookup;refine Q6x (.bool false) rfl _ _ 116 4 rfl underlying116 zer4 rm [] rfl (HV.out.1.ms.at S.out.inw) v rfl HV.out.2.1 ?_;simp only[show findK ([]:KV) v=none from rfl,Option.getD_none]|go_at_call 130;refine got S (Z1k (vb:=vb) (nb:=n2) (sb:=sb)) ?_;clear S;intro W S|refine X9l (sub:=(L1c vb n2 sb)) rf rfl rfl rfl HT.out S.out.inw ?_|refine wk ?_|refine Ws ?_;clear S;intro W S|refine wn ?_;clear S;intro y W S)
 refine Rg S [(y,L1t sb nb rs rm,.t 118)] [] [] [0,1,2,3,4] 4 fun W S=>?_;refine Zw [] 3 5 ?_;intro KK hKK;go_simp;refine got S (Z9e (sb:=sb) (nb:=nb) (rs:=rs) (rm:=rm) HV.out.1 HV.out.2.1) ?_;clear S;intro W S;(try unfold Q0v);refine Yw [7,8] 0 6 ?_;intro KK hKK;go_simp;refine Q0a S (asTypedU_s (vb:=vb) (nb:=nb) (sb:=sb)) ?_;rintro r5 K5 L5 R5 W' hle5 ⟨hKJ,rfl,t2,rfl,rfl⟩ S2;have hJK:=hKJ.symm;subst hJK;clear S;have S:=S2;clear S2;simp only[Q1n,cons_append,nil_append,append_nil]at S;refine Et ?_;go_wp2_with fail
 refine bT ?_;have S9:=Lib.front S [(t2,L1c vb nb sb,.t 367)] [];simp only[cons_append,nil_append]at S9;obtain⟨K3,hle3,hk3,S10⟩:=S9.out.freeze;have S11:=Hd S10;exact ap hle3 ⟨rfl,rfl,t2,rfl,vb,a,hk3,HV.out.2.2.1.mono hle3,HV.out.2.2.2.mono hle3⟩ (show St _ _ _ _ _ [] []from keep S11)
end
end Go.Proofs.YtbmklgemmjgjfaaGreat
