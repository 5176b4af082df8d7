/- Part 52: Cfx, Cfy, Cfz. -/
import Derived.Test.YtbmklgemmjgjfaaGreatT49
import Derived.Test.YtbmklgemmjgjfaaGreatT50
import Derived.Test.YtbmklgemmjgjfaaGreatT51
namespace Go.Proofs.YtbmklgemmjgjfaaGreat
open List (filter_cons filter_nil length_filter_le length_map map_nil mem_filter)
open Go.RowKit Go.Maps Tryz
set_option linter.unusedVariables false
set_option linter.unusedSimpArgs false
set_option maxRecDepth 100000
set_option maxHeartbeats 16000000
variable{one two:BA}{X2:IV}{y1 y2:Nat}{I K5:Gh}{KK:AW}{w W:World}{f:Nat->Bool}{a0:Act}{o:Oper}{x1 x2:V6}{M:Nat->Prop}{Q:EAW}{ta:Tr}
section
def v1B:BA:=⟨#[118,49]⟩
structure LawH(J:Gh)(x1 x2:V6)(X1 X2:IV)(one two:BA):Prop where
 v1:VIs J x1 X1
 v2:VIs J x2 X2
 b1:X1.bulk<2 ^ 28
 b2:X2.bulk<2 ^ 28
 z1:one.size<2 ^ 28
 z2:two.size<2 ^ 28
structure LawT(ta tb:Tr)(one two:BA):Prop where
 ha:ta.ok
 hb:tb.ok
 ma:ta.isMap=true
 na:ta.size<=400
 nb:tb.size<=400
 oa:Q1c ta=true
 ob:Q1c tb=true
 nna:Q1i ta=true
 nnb:Q1i tb=true
 al:Q2d ta tb=true
 ne:one≠two
 ex:∃p,p∈Q0f ta
variable{X1:IV}
theorem LawT.of(h1:X0p X1.tr=true)(h2:X0p X2.tr=true)(hal:Q2d X2.tr X1.tr=true)(hb:Q8c X1.tr=false)(hne:one≠two):LawT X1.tr X2.tr one two:=by
 simp only[X0p,X0i,Bool.and_eq_true,decide_eq_true_eq]at h1 h2;have o1:=IV.tr_ok X1;have o2:=IV.tr_ok X2;refine⟨o1,o2,h1.2.1.1.1,by rw[<-Q9r];exact h1.2.1.1.2,by rw[<-Q9r];exact h2.2.1.1.2,h1.2.1.2,h2.2.1.2,h1.2.2,h2.2.2,alike_symm _ _ _ (Nat.le_refl _) o1 o2 hal,hne,?_⟩;obtain⟨m,hm⟩:=Q2q h1.2.1.1.1;rw[hm]at hb⊢;cases m with
 |nil=>simp[Q8c]at hb
 |cons p m=>obtain⟨k,t⟩:=p;exact⟨[k],by simp[Q0f,Q1u]⟩
theorem ok_e:(Tr.map []).ok:=.map [] List.Pairwise.nil (fun p h=>absurd h b0f)
theorem LawT.api1(h:LawT X1.tr X2.tr one two)(hb:X1.bulk<2 ^ 28)(hz:one.size<2 ^ 28):ApiH (Tr.map []).iv X1 one v1B []:=by
 refine⟨?_,by rw[Q3s];decide,by omega⟩;rw[Q9k ok_e];obtain⟨m,hm⟩:=Q2q h.ma;refine⟨ok_e,h.ha,by decide,h.na,?_,?_,rfl,h.nna,by decide,by unfold maxLen;omega,.inl rfl,fun m h=>absurd h b0f,fun m h=>absurd h b0f⟩
 ·have:=Q2o X1;simp only[Tr.bulk,Q3m];omega
 ·rw[hm];rfl
theorem LawT.api2{f:FS}(h:LawT X1.tr X2.tr one two)(hb1:X1.bulk<2 ^ 28)(hb2:X2.bulk<2 ^ 28)(hz1:one.size<2 ^ 28)(hz2:two.size<2 ^ 28)(hf:f.all.Perm (Q0f X1.tr)):ApiH X1.tr.iv X2 two v1B [⟨one,true,f.all⟩]:=by
 have t1:=Q2o X1;have t2:=Q2o X2;have hlen:f.all.length<=400:=by have:=hf.length_eq;have:=Q8z X1.tr;have:=h.na;omega
 have hpl:plen f.all<=f.all.length*400:=plen_le fun p hp=>by have:=X8m _ p (hf.mem_iff.1 hp);have:=h.na;omega
 have hpl2:plen f.all<=400*400:=Nat.le_trans hpl (Nat.mul_le_mul_right _ hlen);refine⟨?_,by rw[Q3s];omega,by omega⟩;rw[Q9k h.ha];refine⟨h.ha,h.hb,by have:=h.na;omega,h.nb,by omega,h.al,h.nna,h.nnb,by decide,by unfold maxLen;omega,.inr ⟨_,rfl,h.ne⟩,fun m hm=>?_,fun m hm=>?_⟩
 ·rw[List.mem_singleton.1 hm];exact⟨by unfold maxLen;show one.size<=_;omega,by show f.all.length<_;omega,by show plen f.all<_;omega,fun p hp k hk=>by have:=(Q6h _ p (hf.mem_iff.1 hp)).2 k hk;unfold maxLen;omega⟩
 ·rw[List.mem_singleton.1 hm];show plen f.all<=_;omega
variable{u:Value}{sb i:Nat}{t:TypeId}{a b:List Value}{K:Gh}
theorem X2g(h:K sb=some (.cells (a++b).toArray t (0,0)))(hu:a[i]?=some u):K.cell (ad sb (0+i)) u:=
 ⟨_,_,_,h,rfl,by rw[Nat.zero_add,<-Array.getElem?_toList];exact(List.getElem?_append_left (List.getElem?_eq_some_iff.1 hu).1).trans hu⟩
theorem steps_at2(h:K sb=some (.cells (a++b).toArray t (0,0)))(hu:b[i]?=some u):K.cell (ad sb (a.length+i)) u:=
 ⟨_,_,_,h,rfl,by rw[<-Array.getElem?_toList];exact(List.getElem?_append_right (Nat.le_add_right _ _)).trans (by rw[Nat.add_sub_cancel_left];exact hu)⟩
def G6(M:Nat->Prop)(I:Gh)(w:World)(y1 y2:Nat)(K5:Gh)(x1 x2:V6)(X1:IV)(one:BA)(f:Nat->Bool)(x:Nat->Value)(W:World):Prop:=∃(K:Gh) (L:List Blk),Hid (St M I K w W (L++[(y2,[.int .i64 x2.k,.int .i64 x2.n,.float .f64 x2.f,.string x2.s,.slice x2.a1 x2.n1 x2.c1,.slice x2.a2 x2.n2 x2.c2],.t 35),(y1,[.int .i64 x1.k,.int .i64 x1.n,.float .f64 x1.f,.string x1.s,.slice x1.a1 x1.n1 x1.c1,.slice x1.a2 x1.n2 x1.c2],.t 35)]) [])/\K5.le K/\(f 7=false->f 8=false)/\(f 0=true->∃tb x0,x 62=.agg #[.slice (some (ad tb 0)) 2 2,.bool true,.string nmDe,.string ⟨#[]⟩,sn,sn,.string ⟨#[]⟩,.int .i64 x0.k,.int .i64 x0.n,.float .f64 x0.f,.string x0.s,.slice x0.a1 x0.n1 x0.c1,.slice x0.a2 x0.n2 x0.c2,sn,sn,sn,sn,.bool false,.bool false,sn,.string ⟨#[]⟩,.bool false]/\ISch K tb/\VIs K x0 (Tr.map []).iv)/\(f 3=true->∃tb a r,x 65=.tuple #[.agg #[.slice (some (ad tb 0)) 2 2,.bool true,.string nmDe,.string ⟨#[]⟩,sn,sn,.string ⟨#[]⟩,.int .i64 a.x.k,.int .i64 a.x.n,.float .f64 a.x.f,.string a.x.s,.slice a.x.a1 a.x.n1 a.x.c1,.slice a.x.a2 a.x.n2 a.x.c2,.slice a.ma a.mn a.mc,sn,sn,sn,.bool false,.bool false,sn,.string ⟨#[]⟩,.bool false],.bool true]/\ISch K tb/\AnIs K v1B a r/\Q5x (.map []) X1.tr one false (fun _=>none) r)/\(f 4=true->∃tb a r,x 61=.tuple #[.agg #[.slice (some (ad tb 0)) 2 2,.bool true,.string nmDe,.string ⟨#[]⟩,sn,sn,.string ⟨#[]⟩,.int .i64 a.x.k,.int .i64 a.x.n,.float .f64 a.x.f,.string a.x.s,.slice a.x.a1 a.x.n1 a.x.c1,.slice a.x.a2 a.x.n2 a.x.c2,.slice a.ma a.mn a.mc,sn,sn,sn,.bool false,.bool false,sn,.string ⟨#[]⟩,.bool false],.bool true]/\ISch K tb/\AnIs K v1B a r/\Q5x (.map []) X1.tr one false (fun _=>none) r)/\(f 5=true->∃tb a r,x 66=.agg #[.slice (some (ad tb 0)) 2 2,.bool true,.string nmDe,.string ⟨#[]⟩,sn,sn,.string ⟨#[]⟩,.int .i64 a.x.k,.int .i64 a.x.n,.float .f64 a.x.f,.string a.x.s,.slice a.x.a1 a.x.n1 a.x.c1,.slice a.x.a2 a.x.n2 a.x.c2,.slice a.ma a.mn a.mc,sn,sn,sn,.bool false,.bool false,sn,.string ⟨#[]⟩,.bool false]/\ISch K tb/\AnIs K v1B a r/\Q5x (.map []) X1.tr one false (fun _=>none) r)/\(f 6=true->x 67=.bool true)/\(f 9=true->x 11=.bool true)/\(f 7=false/\L=[]\/f 7=true/\∃b,x 10=pt b/\(f 8=false/\L=[(b,[sn,.bool false,.string ⟨#[]⟩,.string ⟨#[]⟩,sn,sn,.string ⟨#[]⟩,.int .i64 0,.int .i64 0,.float .f64 0,.string ⟨#[]⟩,sn,sn,sn,sn,sn,sn,.bool false,.bool false,sn,.string ⟨#[]⟩,.bool false],.t 41)]\/f 8=true/\∃tb a r,L=[(b,[.slice (some (ad tb 0)) 2 2,.bool true,.string nmDe,.string ⟨#[]⟩,sn,sn,.string ⟨#[]⟩,.int .i64 a.x.k,.int .i64 a.x.n,.float .f64 a.x.f,.string a.x.s,.slice a.x.a1 a.x.n1 a.x.c1,.slice a.x.a2 a.x.n2 a.x.c2,.slice a.ma a.mn a.mc,sn,sn,sn,.bool false,.bool false,sn,.string ⟨#[]⟩,.bool false],.t 41)]/\ISch K tb/\AnIs K v1B a r/\Q5x (.map []) X1.tr one false (fun _=>none) r))
variable{x:Nat->Value}{P:Program}
theorem g6_5(ha:decide (61<a0.tmps.size)=true)(ho:o.op=.extract (.tmp 61) 0)(hd:o.dst=some 66)(hf:f 4=true)(hG:G6 M I w y1 y2 K5 x1 x2 X1 one f x W)(hKK:∀v a' W',a'=(Q0t [62,65,10,61,66,67,11] x a0).put (some 66) v->G6 M I w y1 y2 K5 x1 x2 X1 one (fun j=>f j||j==5) (fun j=>if j=66 then v else x j) W'->KK a' W'):o.wp P (Q0t [62,65,10,61,66,67,11] x a0) W KK (NoPanic Q):=by
 obtain⟨K,L,S,hle,h8f,h0,h3,h4,h5,h6,h9,h7⟩:=hG;obtain⟨tb,a,r,e,q1,q2,q3⟩:=h4 hf;have hle5:=Gh.le_refl K;refine Q2h (ext_v ho (Z4r rf ha e) rfl) ?_;refine hKK (.agg (L0b tb nmDe a.x a.ma a.mn a.mc).toArray) _ _ (by rw[hd];rfl) ⟨K,L,S,hle,(fun h=>(by simpa using h8f b0b)),fun h=>(by obtain⟨tb,x0,e,q1,q2⟩:=h0 b0b;exact⟨tb,x0,by simpa using e,q1.mono hle5,q2.mono hle5⟩),fun h=>(by obtain⟨tb,a,r,e,q1,q2,q3⟩:=h3 b0b;exact⟨tb,a,r,by simpa using e,q1.mono hle5,q2.mono hle5,q3⟩),fun h=>(by obtain⟨tb,a,r,e,q1,q2,q3⟩:=h4 b0b;exact⟨tb,a,r,by simpa using e,q1.mono hle5,q2.mono hle5,q3⟩),fun h=>⟨tb,a,r,by simp,q1,q2,q3⟩,fun h=>(by have e:=h6 b0b;simpa using e),fun h=>(by have e:=h9 b0b;simpa using e),h7.imp (fun⟨h,e⟩=>⟨by simpa using h,e⟩) (fun⟨h,b,e,e2⟩=>⟨by simpa using h,b,by simpa using e,e2.imp (fun⟨h,e⟩=>⟨by simpa using h,e⟩) (fun⟨h,tb,a,r,e,q1,q2,q3⟩=>⟨by simpa using h,tb,a,r,e,q1.mono hle5,q2.mono hle5,q3⟩)⟩)⟩
theorem g6_6(ha:decide (61<a0.tmps.size)=true)(ho:o.op=.extract (.tmp 61) 1)(hd:o.dst=some 67)(hf:f 4=true)(hG:G6 M I w y1 y2 K5 x1 x2 X1 one f x W)(hKK:∀v a' W',a'=(Q0t [62,65,10,61,66,67,11] x a0).put (some 67) v->G6 M I w y1 y2 K5 x1 x2 X1 one (fun j=>f j||j==6) (fun j=>if j=67 then v else x j) W'->KK a' W'):o.wp P (Q0t [62,65,10,61,66,67,11] x a0) W KK (NoPanic Q):=by
 obtain⟨K,L,S,hle,h8f,h0,h3,h4,h5,h6,h9,h7⟩:=hG;obtain⟨tb,a,r,e,q1,q2,q3⟩:=h4 hf;have hle5:=Gh.le_refl K;refine Q2h (ext_v ho (Z4r rf ha e) rfl) ?_;refine hKK (.bool true) _ _ (by rw[hd];rfl) ⟨K,L,S,hle,(fun h=>(by simpa using h8f b0b)),fun h=>(by obtain⟨tb,x0,e,q1,q2⟩:=h0 b0b;exact⟨tb,x0,by simpa using e,q1.mono hle5,q2.mono hle5⟩),fun h=>(by obtain⟨tb,a,r,e,q1,q2,q3⟩:=h3 b0b;exact⟨tb,a,r,by simpa using e,q1.mono hle5,q2.mono hle5,q3⟩),fun h=>(by obtain⟨tb,a,r,e,q1,q2,q3⟩:=h4 b0b;exact⟨tb,a,r,by simpa using e,q1.mono hle5,q2.mono hle5,q3⟩),fun h=>(by obtain⟨tb,a,r,e,q1,q2,q3⟩:=h5 b0b;exact⟨tb,a,r,by simpa using e,q1.mono hle5,q2.mono hle5,q3⟩),fun h=>b0f,fun h=>(by have e:=h9 b0b;simpa using e),h7.imp (fun⟨h,e⟩=>⟨by simpa using h,e⟩) (fun⟨h,b,e,e2⟩=>⟨by simpa using h,b,by simpa using e,e2.imp (fun⟨h,e⟩=>⟨by simpa using h,e⟩) (fun⟨h,tb,a,r,e,q1,q2,q3⟩=>⟨by simpa using h,tb,a,r,e,q1.mono hle5,q2.mono hle5,q3⟩)⟩)⟩
theorem g6_8(ha:decide (10<a0.tmps.size)=true)(hb:decide (66<a0.tmps.size)=true)(ho:o.op=.store 41 (.tmp 10) (.tmp 66))(hd:o.dst=none)(hf:f 5=true)(hf7:f 7=true)(hfn:f 8=false)(hG:G6 M I w y1 y2 K5 x1 x2 X1 one f x W)(hKK:∀W',G6 M I w y1 y2 K5 x1 x2 X1 one (fun j=>f j||j==8) x W'->KK (Q0t [62,65,10,61,66,67,11] x a0) W'):o.wp prog (Q0t [62,65,10,61,66,67,11] x a0) W KK (NoPanic Q):=by
 obtain⟨K,L,S,hle,h8f,h0,h3,h4,h5,h6,h9,h7⟩:=hG;obtain⟨tb,a,r,e,q1,q2,q3⟩:=h5 hf;obtain⟨b,e7,rfl⟩:∃b,x 10=pt b/\L=[(b,L1j,.t 41)]:=h7.elim (fun h=>absurd h.1 (by rw[hf7];decide)) (fun⟨_,b,e,h⟩=>⟨b,e,h.elim (fun h=>h.2) (fun h=>absurd h.1 (by rw[hfn];decide))⟩);have hle5:=Gh.le_refl K;replace S:=sa S;refine Q0y (sub:=(L0b tb nmDe a.x a.ma a.mn a.mc)) S ho (Z4r rf ha e7) (by rw[Z4r rf hb e];rfl) rf ?_;clear S;intro W S;refine put_none hd ?_;refine hKK _ ⟨K,[(b,L0b tb nmDe a.x a.ma a.mn a.mc,.t 41)],S,hle,(fun h=>absurd hf7 (by simp at h;simp[h])),fun h=>(by obtain⟨tb,x0,e,q1,q2⟩:=h0 b0b;exact⟨tb,x0,by simpa using e,q1.mono hle5,q2.mono hle5⟩),fun h=>(by obtain⟨tb,a,r,e,q1,q2,q3⟩:=h3 b0b;exact⟨tb,a,r,by simpa using e,q1.mono hle5,q2.mono hle5,q3⟩),fun h=>(by obtain⟨tb,a,r,e,q1,q2,q3⟩:=h4 b0b;exact⟨tb,a,r,by simpa using e,q1.mono hle5,q2.mono hle5,q3⟩),fun h=>(by obtain⟨tb,a,r,e,q1,q2,q3⟩:=h5 b0b;exact⟨tb,a,r,by simpa using e,q1.mono hle5,q2.mono hle5,q3⟩),fun h=>(by have e:=h6 b0b;simpa using e),fun h=>(by have e:=h9 b0b;simpa using e),.inr ⟨by simp[hf7],b,e7,.inr ⟨by simp,tb,a,r,rfl,q1,q2,q3⟩⟩⟩
variable{ops:Array Oper}
theorem g6_5x(ho:∃o,ops[5]?=some o/\o.guard=none/\o.op=.extract (.tmp 61) 0/\o.dst=some 66)(ha:decide (61<a0.tmps.size)=true)(hf:([4]:List Nat).all f=true)(hG:G6 M I w y1 y2 K5 x1 x2 X1 one f x W):∃o,ops[5]?=some o/\o.guard=none/\((∃s,o.dst=some s/\[62,65,10,61,66,67,11].contains s=true/\∀K:AW,(∀v a' W',a'=(Q0t [62,65,10,61,66,67,11] x a0).put (some s) v->G6 M I w y1 y2 K5 x1 x2 X1 one (fun j=>f j||j==5) (fun j=>if j=s then v else x j) W'->K a' W')->o.wp P (Q0t [62,65,10,61,66,67,11] x a0) W K (NoPanic Q))\/∀K:AW,(∀W',G6 M I w y1 y2 K5 x1 x2 X1 one (fun j=>f j||j==5) x W'->K (Q0t [62,65,10,61,66,67,11] x a0) W')->o.wp P (Q0t [62,65,10,61,66,67,11] x a0) W K (NoPanic Q)):=by
 obtain⟨o,h1,h2,h3,h4⟩:=ho;exact⟨o,h1,h2,.inl ⟨66,h4,rfl,fun KK hKK=>g6_5 ha h3 h4 b1f hG hKK⟩⟩
theorem g6_6x(ho:∃o,ops[6]?=some o/\o.guard=none/\o.op=.extract (.tmp 61) 1/\o.dst=some 67)(ha:decide (61<a0.tmps.size)=true)(hf:([4]:List Nat).all f=true)(hG:G6 M I w y1 y2 K5 x1 x2 X1 one f x W):∃o,ops[6]?=some o/\o.guard=none/\((∃s,o.dst=some s/\[62,65,10,61,66,67,11].contains s=true/\∀K:AW,(∀v a' W',a'=(Q0t [62,65,10,61,66,67,11] x a0).put (some s) v->G6 M I w y1 y2 K5 x1 x2 X1 one (fun j=>f j||j==6) (fun j=>if j=s then v else x j) W'->K a' W')->o.wp P (Q0t [62,65,10,61,66,67,11] x a0) W K (NoPanic Q))\/∀K:AW,(∀W',G6 M I w y1 y2 K5 x1 x2 X1 one (fun j=>f j||j==6) x W'->K (Q0t [62,65,10,61,66,67,11] x a0) W')->o.wp P (Q0t [62,65,10,61,66,67,11] x a0) W K (NoPanic Q)):=by
 obtain⟨o,h1,h2,h3,h4⟩:=ho;exact⟨o,h1,h2,.inl ⟨67,h4,rfl,fun KK hKK=>g6_6 ha h3 h4 b1f hG hKK⟩⟩
theorem g6_8x(ho:∃o,ops[8]?=some o/\o.guard=none/\o.op=.store 41 (.tmp 10) (.tmp 66)/\o.dst=none)(ha:decide (10<a0.tmps.size)=true)(hb:decide (66<a0.tmps.size)=true)(hf:([5,7]:List Nat).all f=true)(hfn:f 8=false)(hG:G6 M I w y1 y2 K5 x1 x2 X1 one f x W):∃o,ops[8]?=some o/\o.guard=none/\((∃s,o.dst=some s/\[62,65,10,61,66,67,11].contains s=true/\∀K:AW,(∀v a' W',a'=(Q0t [62,65,10,61,66,67,11] x a0).put (some s) v->G6 M I w y1 y2 K5 x1 x2 X1 one (fun j=>f j||j==8) (fun j=>if j=s then v else x j) W'->K a' W')->o.wp prog (Q0t [62,65,10,61,66,67,11] x a0) W K (NoPanic Q))\/∀K:AW,(∀W',G6 M I w y1 y2 K5 x1 x2 X1 one (fun j=>f j||j==8) x W'->K (Q0t [62,65,10,61,66,67,11] x a0) W')->o.wp prog (Q0t [62,65,10,61,66,67,11] x a0) W K (NoPanic Q)):=by
 obtain⟨o,h1,h2,h3,h4⟩:=ho;simp only[List.all_cons,List.all_nil,Bool.and_true,Bool.and_eq_true]at hf;exact⟨o,h1,h2,.inr fun KK hKK=>g6_8 ha hb h3 h4 hf.1 hf.2 hfn hG hKK⟩
end
section
variable{x:Nat->Value}{slots:List Nat}
theorem X8r{P:Program}{ops:Array Oper}{G:(Nat->Bool)->(Nat->Value)->World->Prop}{n s:Nat}{op:Op}(ho:∃o,ops[n]?=some o/\o.guard=none/\o.op=op/\o.dst=some s)(hs:slots.contains s=true)(h:∀o:Oper,o.op=op->o.dst=some s->∀KK:AW,(∀v a' W',a'=(Q0t slots x a0).put (some s) v->G (fun j=>f j||j==n) (fun j=>if j=s then v else x j) W'->KK a' W')->o.wp P (Q0t slots x a0) W KK (NoPanic Q)):∃o,ops[n]?=some o/\o.guard=none/\((∃s,o.dst=some s/\slots.contains s=true/\∀K:AW,(∀v a' W',a'=(Q0t slots x a0).put (some s) v->G (fun j=>f j||j==n) (fun j=>if j=s then v else x j) W'->K a' W')->o.wp P (Q0t slots x a0) W K (NoPanic Q))\/∀K:AW,(∀W',G (fun j=>f j||j==n) x W'->K (Q0t slots x a0) W')->o.wp P (Q0t slots x a0) W K (NoPanic Q)):=by
 obtain⟨o,h1,h2,h3,h4⟩:=ho;exact⟨o,h1,h2,.inl ⟨s,h4,hs,h o h3 h4⟩⟩
theorem Z3e{a:Act}{j:Nat}(hs:slots.contains j=false):(Q0t slots x a).eval (.tmp j)=a.eval (.tmp j):=by
 have hs':j ∉ slots:=by simpa using hs
 by_cases hj:j<a.tmps.size<;>simp[Q0t,Act.eval,hj,hs']
def G7(M:Nat->Prop)(I:Gh)(w:World)(b y1 y2 tb:Nat)(a:A10)(K5:Gh)(x1 x2:V6)(ta td:Tr)(two:BA)(ms:List Mgn)(f:Nat->Bool)(x:Nat->Value)(W:World):Prop:=∃(K:Gh) (c d:Nat),Hid (St M I K w W ((if f 9=true then[(d,[.bool false,sn,.bool false,.int .i64 0,.int .i64 0,.float .f64 0,.string ⟨#[]⟩,sn,sn,sn],Bt.t 47)]else[])++((if f 8=true then[(c,[.bool false,sn,.bool false,.int .i64 0,.int .i64 0,.float .f64 0,.string ⟨#[]⟩,sn,sn,sn],Bt.t 47)]else[])++[(b,[.slice (some (ad tb 0)) 2 2,.bool true,.string nmDe,.string ⟨#[]⟩,sn,sn,.string ⟨#[]⟩,.int .i64 a.x.k,.int .i64 a.x.n,.float .f64 a.x.f,.string a.x.s,.slice a.x.a1 a.x.n1 a.x.c1,.slice a.x.a2 a.x.n2 a.x.c2,.slice a.ma a.mn a.mc,sn,sn,sn,.bool false,.bool false,sn,.string ⟨#[]⟩,.bool false],.t 41),(y2,[.int .i64 x2.k,.int .i64 x2.n,.float .f64 x2.f,.string x2.s,.slice x2.a1 x2.n1 x2.c1,.slice x2.a2 x2.n2 x2.c2],.t 35),(y1,[.int .i64 x1.k,.int .i64 x1.n,.float .f64 x1.f,.string x1.s,.slice x1.a1 x1.n1 x1.c1,.slice x1.a2 x1.n2 x1.c2],.t 35)])) [])/\K5.le K/\(f 3=true->∃a r,x 71=A10.agg a/\AnIs K v1B a r/\Q5x ta td two false (mgF ms) r)/\(f 7=true->∃a r,x 75=A10.agg a/\AnIs K v1B a r/\Q5x ta td two true (mgF ms) r)/\(f 8=true->x 12=pt c)/\(f 9=true->x 13=pt d)
variable{ms:List Mgn}{X0:IV}{a:A10}{b tb:Nat}
theorem g7_3(q1:ISch K5 tb)(q2:VIs K5 a.x X0)(q3:VIs K5 x2 X2)(q4:Q9d K5 v1B (.slice a.ma a.mn a.mc) ms)(q5:ApiH X0 X2 two v1B ms)(ho:o.op=.call ⟨.value (.func 32),#[.tmp 68,.tmp 69,.const (.string v1B),.tmp 70,.const (.bool false)],#[41,35,9,9,4]⟩)(hd:o.dst=some 71)(e1:(Q0t [71,75,12,13] x a0).eval (.tmp 68)=.agg (L0b tb nmDe a.x a.ma a.mn a.mc).toArray)(e2:(Q0t [71,75,12,13] x a0).eval (.tmp 69)=.agg (L0a x2).toArray)(e3:(Q0t [71,75,12,13] x a0).eval (.tmp 70)=.string two)(hG:G7 M I w b y1 y2 tb a K5 x1 x2 X0.tr X2.tr two ms f x W)(hKK:∀v a' W',a'=(Q0t [71,75,12,13] x a0).put (some 71) v->G7 M I w b y1 y2 tb a K5 x1 x2 X0.tr X2.tr two ms (fun j=>f j||j==3) (fun j=>if j=71 then v else x j) W'->KK a' W'):o.wp prog (Q0t [71,75,12,13] x a0) W KK (NoPanic Q):=by
 obtain⟨K,c,d,S,hle,h3,h7,h8,h9⟩:=hG;unfold Oper.wp execOp;simp only[ho];generalize Q0t [71,75,12,13] x a0=a1 at*;go_simp;have g1:a1.tmps[68]?.getD undef=.agg (L0b tb nmDe a.x a.ma a.mn a.mc).toArray:=by simpa[Act.eval]using e1
 have g2:a1.tmps[69]?.getD undef=.agg (L0a x2).toArray:=by simpa[Act.eval]using e2
 have g3:a1.tmps[70]?.getD undef=.string two:=by simpa[Act.eval]using e3
 rw[g1,g2,g3];refine Q0a S (api_s (q1.mono hle) (q2.mono hle) (q3.mono hle) (q4.mono hle) q5) ?_;rintro r5 K6 L5 R5 W' hle5 ⟨rfl,rfl,a',r,rfl,q6,q7⟩ S;replace S:=sa S;refine hKK (A10.agg a') _ _ rfl ⟨K6,c,d,by simpa using S,gT hle hle5,fun _=>⟨a',r,by simp,q6,q7⟩,fun h=>(by obtain⟨a2,r2,e,u1,u2⟩:=h7 b0b;exact⟨a2,r2,by simpa using e,u1.mono hle5,u2⟩),fun h=>(by simpa using h8 b0b),fun h=>(by simpa using h9 b0b)⟩
theorem g7_7(q1:ISch K5 tb)(q2:VIs K5 a.x X0)(q3:VIs K5 x2 X2)(q4:Q9d K5 v1B (.slice a.ma a.mn a.mc) ms)(q5:ApiH X0 X2 two v1B ms)(ho:o.op=.call ⟨.value (.func 32),#[.tmp 72,.tmp 73,.const (.string v1B),.tmp 74,.const (.bool true)],#[41,35,9,9,4]⟩)(hd:o.dst=some 75)(e1:(Q0t [71,75,12,13] x a0).eval (.tmp 72)=.agg (L0b tb nmDe a.x a.ma a.mn a.mc).toArray)(e2:(Q0t [71,75,12,13] x a0).eval (.tmp 73)=.agg (L0a x2).toArray)(e3:(Q0t [71,75,12,13] x a0).eval (.tmp 74)=.string two)(hG:G7 M I w b y1 y2 tb a K5 x1 x2 X0.tr X2.tr two ms f x W)(hKK:∀v a' W',a'=(Q0t [71,75,12,13] x a0).put (some 75) v->G7 M I w b y1 y2 tb a K5 x1 x2 X0.tr X2.tr two ms (fun j=>f j||j==7) (fun j=>if j=75 then v else x j) W'->KK a' W'):o.wp prog (Q0t [71,75,12,13] x a0) W KK (NoPanic Q):=by
 obtain⟨K,c,d,S,hle,h3,h7,h8,h9⟩:=hG;unfold Oper.wp execOp;simp only[ho];generalize Q0t [71,75,12,13] x a0=a1 at*;go_simp;have g1:a1.tmps[72]?.getD undef=.agg (L0b tb nmDe a.x a.ma a.mn a.mc).toArray:=by simpa[Act.eval]using e1
 have g2:a1.tmps[73]?.getD undef=.agg (L0a x2).toArray:=by simpa[Act.eval]using e2
 have g3:a1.tmps[74]?.getD undef=.string two:=by simpa[Act.eval]using e3
 rw[g1,g2,g3];refine Q0a S (api_s (q1.mono hle) (q2.mono hle) (q3.mono hle) (q4.mono hle) q5) ?_;rintro r5 K6 L5 R5 W' hle5 ⟨rfl,rfl,a',r,rfl,q6,q7⟩ S;replace S:=sa S;refine hKK (A10.agg a') _ _ rfl ⟨K6,c,d,by simpa using S,gT hle hle5,fun h=>(by obtain⟨a2,r2,e,u1,u2⟩:=h3 b0b;exact⟨a2,r2,by simpa using e,u1.mono hle5,u2⟩),fun _=>⟨a',r,by simp,q6,q7⟩,fun h=>(by simpa using h8 b0b),fun h=>(by simpa using h9 b0b)⟩
variable{td:Tr}
theorem g7_8(ho:o.op=.alloc 47)(hd:o.dst=some 12)(hfn:f 8=false)(hG:G7 M I w b y1 y2 tb a K5 x1 x2 ta td two ms f x W)(hKK:∀v a' W',a'=(Q0t [71,75,12,13] x a0).put (some 12) v->G7 M I w b y1 y2 tb a K5 x1 x2 ta td two ms (fun j=>f j||j==8) (fun j=>if j=12 then v else x j) W'->KK a' W'):o.wp prog (Q0t [71,75,12,13] x a0) W KK (NoPanic Q):=by
 obtain⟨K,c,d,S,hle,h3,h7,h8,h9⟩:=hG;refine Q3c (sub:=L1u) S ho ?_;clear S;intro y W S;rw[hd];refine hKK _ _ _ rfl ⟨K,y,d,?_,hle,fun h=>(by obtain⟨a2,r2,e,u1,u2⟩:=h3 b0b;exact⟨a2,r2,by simpa using e,u1,u2⟩),fun h=>(by obtain⟨a2,r2,e,u1,u2⟩:=h7 b0b;exact⟨a2,r2,by simpa using e,u1,u2⟩),fun _=>by simp,fun h=>(by simpa using h9 b0b)⟩;refine Hd (S.out.lperm ?_);cases h:f 9<;>simp[h,hfn];all_goals first|exact List.Perm.refl _|exact List.Perm.swap ..
theorem g7_9(ho:o.op=.alloc 47)(hd:o.dst=some 13)(hfn:f 9=false)(hG:G7 M I w b y1 y2 tb a K5 x1 x2 ta td two ms f x W)(hKK:∀v a' W',a'=(Q0t [71,75,12,13] x a0).put (some 13) v->G7 M I w b y1 y2 tb a K5 x1 x2 ta td two ms (fun j=>f j||j==9) (fun j=>if j=13 then v else x j) W'->KK a' W'):o.wp prog (Q0t [71,75,12,13] x a0) W KK (NoPanic Q):=by
 obtain⟨K,c,d,S,hle,h3,h7,h8,h9⟩:=hG;refine Q3c (sub:=L1u) S ho ?_;clear S;intro y W S;rw[hd];refine hKK _ _ _ rfl ⟨K,c,y,?_,hle,fun h=>(by obtain⟨a2,r2,e,u1,u2⟩:=h3 b0b;exact⟨a2,r2,by simpa using e,u1,u2⟩),fun h=>(by obtain⟨a2,r2,e,u1,u2⟩:=h7 b0b;exact⟨a2,r2,by simpa using e,u1,u2⟩),fun h=>(by simpa using h8 b0b),fun _=>by simp⟩;refine Hd (S.out.lperm ?_);cases h:f 8<;>simp[h,hfn];all_goals first|exact List.Perm.refl _|exact List.Perm.swap ..
end
section
section
variable{P:Program}{ops:Array Oper}{J:Gh}{L:List Blk}{R:List Rw}{o:Oper}{a:Act}{x:Operand}{T t:TypeId}{b j:Nat}{v:Value}{cs:List Value}{bt:Bt}
theorem y_loadW(hw:Region.wanted o (yielded ops a.tmps)=true)(ho:o.op=.load T x)(hx:a.eval x=.pointer (some (ad b j)))[i:Hs L b cs t][k:Ldv P T cs j v]:YieldsIf P ops (Vw J L R) o v a:=
 y_at hw fun W hW=>Q4j ho hx (k.h fun q u hq=>by
  have h0:W.heap[b]?=some (.cells cs.toArray t (0,0)):=hW.1 _ i.h.mem;have:=Q0e h0 q;rw[this];simpa using hq)
end
variable{t tb:Tr}
theorem vis_k{K:Gh}{r:V6}(h:VIs K r t.iv):r.k=(t.kind:Int):=by
 cases t<;>(simp only[Tr.iv]at h;cases h;rfl)
variable{J:Gh}
theorem flat_at1{A:OA}{vs:List Value}(h:Q0u J A vs){i:Nat}{v:Value}(hv:vs[i]?=some v):∃b o,A=some (ad b o)/\J.cell (ad b (o+i)) v:=by
 rcases h with⟨_,e⟩|⟨b,o,e,h⟩
 ·rw[e]at hv;simp at hv
 ·exact⟨b,o,e,h _ _ hv⟩
structure Lp(J K:Gh)(ta tb:Tr)(one:BA)(i n1 n2:Nat)(zs:KV)(ls:List Value):Prop where
 le:J.le K
 z:zs.length=n1
 l:ls.length=n2
 cf:All2 (fun x y=>x.1=y.1/\Q2l K x.2 y.2) zs ((((Q0f ta).take i).filter (Q2y ta tb)).map fun p=>(one,p))
 lf:All2 (Q2l K) ls (((Q0f ta).take i).filter fun q=>!Q2y ta tb q)
theorem Lp.start(J:Gh)(ta tb:Tr)(one:BA):Lp J J ta tb one 0 0 0 [] []:=⟨gR,rfl,rfl,.nil,.nil⟩
section
variable{J K K':Gh}{ta tb:Tr}{one:BA}{i n1 n2:Nat}{zs:KV}{ls:List Value}{p:List PE}{v:Value}
theorem Lp.bound(h:Lp J K ta tb one i n1 n2 zs ls):n1<=i/\n2<=i:=by
 have h1:=h.cf.length;have h2:=h.lf.length;rw[length_map]at h1;have h3:=length_filter_le (Q2y ta tb) ((Q0f ta).take i);have h4:=length_filter_le (fun q=>!Q2y ta tb q) ((Q0f ta).take i);have h5:=List.length_take_le i (Q0f ta);have:=h.z;have:=h.l;omega
theorem Lp.conf(h:Lp J K ta tb one i n1 n2 zs ls)(l:K.le K')(hp:(Q0f ta)[i]?=some p)(hv:Q2l K' v p)(hc:Q2y ta tb p=true):Lp J K' ta tb one (i+1) (n1+1) n2 (zs++[(one,v)]) ls:=by
 refine⟨gT h.le l,by simp[h.z],h.l,?_,?_⟩
 ·rw[Q1k hp,List.filter_append,List.map_append];refine Q8j (h.cf.imp fun _ _ k=>⟨k.1,k.2.mono l⟩) ?_;simp only[filter_cons,hc,if_true,filter_nil,List.map_cons,map_nil];exact .cons ⟨rfl,hv⟩ .nil
 ·rw[Q1k hp,List.filter_append];simp only[filter_cons,hc,filter_nil,Bool.not_true,Bool.false_eq_true,if_false,List.append_nil];exact h.lf.imp fun _ _ k=>k.mono l
theorem Lp.left(h:Lp J K ta tb one i n1 n2 zs ls)(l:K.le K')(hp:(Q0f ta)[i]?=some p)(hv:Q2l K' v p)(hc:Q2y ta tb p=false):Lp J K' ta tb one (i+1) n1 (n2+1) zs (ls++[v]):=by
 refine⟨gT h.le l,h.z,by simp[h.l],?_,?_⟩
 ·rw[Q1k hp,List.filter_append,List.map_append];simp only[filter_cons,hc,filter_nil,Bool.false_eq_true,if_false,map_nil,List.append_nil];exact h.cf.imp fun _ _ k=>⟨k.1,k.2.mono l⟩
 ·rw[Q1k hp,List.filter_append];refine Q8j (h.lf.imp fun _ _ k=>k.mono l) ?_;simp only[filter_cons,hc,Bool.not_false,if_true,filter_nil];exact .cons hv .nil
theorem Lp.done(h:Lp J K ta tb one (Q0f ta).length n1 n2 zs ls){A1 A2:OA}{c1 c2:Nat}(l:K.le K')(h1:n1<=c1)(h2:c1<=maxLen)(h3:Q0u K' A1 (zs.flatMap Q2w))(h4:n2<=c2)(h5:c2<=maxLen)(h6:Q0u K' A2 ls):
  J.le K'/\n1=(Z0j ta tb).length/\Z3l K' (.slice A1 n1 c1) ((Z0j ta tb).map fun p=>(one,p))/\n2=(Q9p ta tb).length/\Q2i K' (.slice A2 n2 c2) (Q9p ta tb):=by
 have e1:=h.cf;have e2:=h.lf;rw[List.take_length]at e1 e2;have l1:=e1.length;have l2:=e2.length;rw[length_map]at l1;have z1:n1=(Z0j ta tb).length:=by rw[<-h.z,l1];rfl
 have z2:n2=(Q9p ta tb).length:=by rw[<-h.l,l2];rfl
 refine⟨gT h.le l,z1,⟨A1,c1,zs,by rw[length_map,z1],by rw[length_map,<-z1];exact h1,h2,h3,e1.imp fun _ _ k=>⟨k.1,k.2.mono l⟩⟩,z2,⟨A2,c2,ls,by rw[z2],by rw[<-z2];exact h4,h5,h6,e2.imp fun _ _ k=>k.mono l⟩⟩
end
theorem ok_at:∀(p:List PE) {t u:Tr},t.ok->atT t p=some u->u.ok/\u.bulk<=t.bulk
 |[],t,u,h,e=>by rw[Q7g]at e;cases e;exact⟨h,Nat.le_refl _⟩
 |k::p,t,u,h,e=>by
  cases hm:t.isMap with
  |false=>rw[Z2j hm]at e;cases e
  |true=>
   obtain⟨m,rfl⟩:=Q2q hm;rw[Q9f]at e;cases hf:findK m k with
   |none=>rw[hf]at e;cases e
   |some w=>
    rw[hf]at e;have hw:=Q0o hf;have hok:w.ok:=by cases h with|map _ _ ho=>exact ho _ hw
    obtain⟨h1,h2⟩:=ok_at p hok e;have:=Q4i hw;refine⟨h1,?_⟩;simp only[Tr.bulk];dsimp only at this;omega
variable{ps:List (List PE)}
theorem X1k(hb:t.bulk<2 ^ 30)(hs:t.bulk<=maxLen)(h:∀p∈ps,p∈Q0f t):Z2u ps:=fun q hq=>by
 have:=Q6h t q (h q hq);exact⟨by omega,fun k hk=>Nat.le_trans (this.2 k hk) hs⟩
theorem mg_both{v:BA}{r:Value}{ms:List Mgn}(hm:(∃m∈ms,m.name=one/\∃qa qc,r=.tuple #[.agg (L1y m.name v m.ap qa m.ps.length qc).toArray,.bool true]/\Q2i J (.slice qa m.ps.length qc) m.ps)\/((∀m∈ms,m.name≠one)/\r=.tuple #[.agg L1x.toArray,.bool false]))
  (h1:∀m∈ms,m.name=one->Q3d [] m.ps=Q3d [] (Q9p ta tb)/\m.ps.Perm (Q9p ta tb))(h2:(∀m∈ms,m.name≠one)->Q9p ta tb=[]):
  ∃s1 s2 b1 b2 qa n qc ps,r=.tuple #[.agg (L1y s1 s2 b1 qa n qc).toArray,.bool b2]/\Q2i J (.slice qa n qc) ps/\Q3d [] ps=Q3d [] (Q9p ta tb)/\(∀p∈ps,p∈Q0f ta)/\ps.length<=(Q0f ta).length:=by
 rcases hm with⟨m,hm,hn,qa,qc,rfl,hp⟩|⟨hn,rfl⟩
 ·obtain⟨a,b⟩:=h1 m hm hn;exact⟨_,_,_,_,qa,_,qc,m.ps,rfl,hp,a,fun p hp=>(mem_filter.1 (b.mem_iff.1 hp)).1,by rw[b.length_eq];exact length_filter_le ..⟩
 ·exact⟨_,_,_,_,none,0,0,[],rfl,⟨none,0,[],rfl,Nat.le_refl _,Nat.zero_le _,.inl ⟨rfl,rfl⟩,.nil⟩,by rw[h2 hn],fun p h=>absurd h b0f,Nat.zero_le _⟩
theorem LawT.second{X1 X2:IV}(h:LawT X1.tr X2.tr one two)(hp:ps.Perm (Q0f X1.tr)):Z5a X1.tr X2.tr one two ps:=⟨h.ha,h.hb,h.al,h.oa,h.ob,h.ne,hp⟩
theorem LawT.same(h:LawT ta tb one two):eqT (Q0d ta tb) (Q0d ta tb)=true:=Z4n _ (Z9f _ ta tb (Nat.le_refl _) h.ha h.hb h.oa h.ob)
theorem LawT.mbulk(h:LawT ta tb one two)(h1:ta.bulk<2 ^ 28)(h2:tb.bulk<2 ^ 28):(Q0d ta tb).iv.bulk<2 ^ 30:=by
 have:=Z8e _ ta tb (Nat.le_refl _) h.ha h.hb;rw[Q3s];omega
theorem LawT.lefts_in:∀p∈Q9p ta tb,p∈Q0f ta:=fun _ h=>(mem_filter.1 h).1
theorem LawT.cfs(h:LawT ta tb one two)(hb:ta.bulk<2 ^ 28):(Z0j ta tb).length<=400/\∀y∈(Z0j ta tb).map (fun p=>(one,p)),y.2.length<=2 ^ 30:=by
 refine⟨?_,fun y hy=>?_⟩
 ·have h1:(Z0j ta tb).length<=(Q0f ta).length:=length_filter_le ..;have h2:=Q8z ta;have:=h.na;omega
 ·obtain⟨p,hp,rfl⟩:=List.mem_map.1 hy;have:=(Q6h ta p (mem_filter.1 hp).1).1;show p.length<=_;omega
end
end Go.Proofs.YtbmklgemmjgjfaaGreat
