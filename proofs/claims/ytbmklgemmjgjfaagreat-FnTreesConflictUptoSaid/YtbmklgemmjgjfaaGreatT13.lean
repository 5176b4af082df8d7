/- Part 13: Cpm, Cln, Kid, Alk, Tat. -/
import Derived.Test.YtbmklgemmjgjfaaGreatT12
namespace Go.Proofs.YtbmklgemmjgjfaaGreat
open List (getElem?_map length_map map_cons mem_of_getElem? sum_cons take_length)
open Go.RowKit Go.Maps Tryz
set_option linter.unusedVariables false
set_option linter.unusedSimpArgs false
set_option maxRecDepth 100000
set_option maxHeartbeats 2000000
variable{W:World}{I:Gh}
section
theorem Z9v:∀(acc:KT) (ks:List BA) (ts:List Tr) (i:Nat) (k:BA) (t:Tr),ks[i]?=some k->ts[i]?=some t->mkM acc (ks.take (i+1)) (ts.take (i+1))=insK (mkM acc (ks.take i) (ts.take i)) k t
 |acc,[],ts,i,k,t,h,_=>by simp at h
 |acc,_::_,[],i,k,t,_,h=>by simp at h
 |acc,a::ks,b::ts,0,k,t,h1,h2=>by
  simp at h1 h2;subst h1;subst h2;simp[mkM]
 |acc,a::ks,b::ts,i+1,k,t,h1,h2=>by
  rw[List.take_succ_cons,List.take_succ_cons,mkM,List.take_succ_cons,List.take_succ_cons,mkM];exact Z9v _ ks ts i k t b1g b1d
theorem Z3a:∀(acc:KT) (ks:List BA) (ts:List Tr) (i:Nat),(ks.length<=i\/ts.length<=i)->mkM acc (ks.take i) (ts.take i)=mkM acc ks ts
 |acc,[],ts,i,_=>by simp[mkM]
 |acc,a::ks,[],i,_=>by cases i<;>simp[mkM]
 |acc,a::ks,b::ts,0,h=>by simp at h
 |acc,a::ks,b::ts,i+1,h=>by
  rw[List.take_succ_cons,List.take_succ_cons,mkM,mkM];exact Z3a _ ks ts i b0b
def X0g(ks:List BA)(l:List IV)(i:Nat):KT:=mkM [] (ks.take i) ((trL l).take i)
theorem mkM_len:∀(acc:KT) (ks:List BA) (ts:List Tr),(mkM acc ks ts).length<=acc.length+ks.length
 |acc,[],ts=>by simp[mkM]
 |acc,a::ks,[]=>by simp[mkM]
 |acc,a::ks,b::ts=>by
  rw[mkM];have:=mkM_len (insK acc a b) ks ts;have:=Q3r acc a b;simp;omega
theorem mapTo_len(ks:List BA)(l:List IV)(i:Nat):(X0g ks l i).length<=ks.length:=by
 have:=mkM_len [] (ks.take i) ((trL l).take i);have h2:(ks.take i).length<=ks.length:=by rw[List.length_take];exact Nat.min_le_right _ _
 simp only[List.length_nil]at this;unfold X0g;omega
theorem mapTo_ok(ks:List BA)(l:List IV)(i:Nat):(Tr.map (X0g ks l i)).ok:=by
 obtain⟨h1,h2⟩:=mkM_ok [] (ks.take i) ((trL l).take i) List.Pairwise.nil (fun p hp=>absurd hp b0f) (fun t ht=>trL_ok l t (List.mem_of_mem_take ht));exact .map _ h1 h2
theorem Q1f{B i b o:Nat}{v:Value}(h:¬b=B):(W.setCell ⟨B,i,none⟩ v).cell? ⟨b,o,none⟩=W.cell? ⟨b,o,none⟩:=
 World.cell?_of_block (Z3y h)
theorem Z6m{R:Nat}{u0 u1 u2 u3 u4 u5:Value}{t:TypeId}(h:W.heap[R]?=some (.cells #[u0,u1,u2,u3,u4,u5] t (0,0)))(v0 v1 v2 v3 v4 v5:Value):
  (((((W.setCell ⟨R,0,none⟩ v0).setCell ⟨R,1,none⟩ v1).setCell ⟨R,2,none⟩ v2).setCell ⟨R,3,none⟩ v3).setCell ⟨R,4,none⟩ v4).setCell ⟨R,5,none⟩ v5=W.setRow R #[v0,v1,v2,v3,v4,v5]:=by
 have h0:=setCell_eq_setRow W R 0 _ t (0,0) v0 h;have g0:=setRow_heap W R _ (#[u0,u1,u2,u3,u4,u5].setIfInBounds 0 v0) t (0,0) h;rw[h0,setCell_eq_setRow _ R 1 _ t (0,0) v1 g0,setRow_setRow];have g1:=setRow_heap W R _ ((#[u0,u1,u2,u3,u4,u5].setIfInBounds 0 v0).setIfInBounds 1 v1) t (0,0) h;rw[setCell_eq_setRow _ R 2 _ t (0,0) v2 g1,setRow_setRow];have g2:=setRow_heap W R _ (((#[u0,u1,u2,u3,u4,u5].setIfInBounds 0 v0).setIfInBounds 1 v1).setIfInBounds 2 v2) t (0,0) h;rw[setCell_eq_setRow _ R 3 _ t (0,0) v3 g2,setRow_setRow];have g3:=setRow_heap W R _ ((((#[u0,u1,u2,u3,u4,u5].setIfInBounds 0 v0).setIfInBounds 1 v1).setIfInBounds 2 v2).setIfInBounds 3 v3) t (0,0) h;rw[setCell_eq_setRow _ R 4 _ t (0,0) v4 g3,setRow_setRow];have g4:=setRow_heap W R _ (((((#[u0,u1,u2,u3,u4,u5].setIfInBounds 0 v0).setIfInBounds 1 v1).setIfInBounds 2 v2).setIfInBounds 3 v3).setIfInBounds 4 v4) t (0,0) h;rw[setCell_eq_setRow _ R 5 _ t (0,0) v5 g4,setRow_setRow];rfl
structure PMs(I:Gh)(w:World)(k n:Int)(f:Nat)(s:BA)(a1:OA)(n1 c1:Nat)(a2:OA)(n2 c2:Nat)(ks:List BA)(l:List IV)(i:Nat)(J:Gh)(W:World)(r:V6):Prop where
 step:Step Nix I J w W
 box:W.heap[w.heap.size]?=some (.cells (L0e k n f s a1 n1 c1 a2 n2 c2).toArray 35 (0,0))
 res:W.heap[w.heap.size+1]?=some (.cells L0c.toArray 35 (0,0))
 out:W.heap[w.heap.size+1+1]?=some (.cells (L0a r).toArray 35 (0,0))
 val:VIs J r (Tr.map (X0g ks l i)).iv
 no1:J (w.heap.size+1)=none
 no2:J (w.heap.size+1+1)=none
theorem z0i{P:Prop}(h:P:=by
 refine hK.out _ _ ?_ (fun hHeld=>?_)
 ·first|go_keep|(simp only[Q1f n1,Q1f n2,Q1f n3];exact⟨z34,z35,x3,t30,t31,t32,t33,t34,t35⟩)
 clear hK K;try refine yp ?_
 refine wpAnyH_ready (rs:=[12]) kr b0f ?_;refine AllReadyH.cons rfl (fun K hK=>?_) AllReadyH.nil;go_simp;refine(Z0x (m:=X0g ks l i) (PH.out.val.mono R2.out.1.le) (mapTo_ok ks l i) R2.out.2 key HX.out.2.2.2.2 (Nat.le_trans (mapTo_len ks l i) hm2) _ ?_).mono ?_;(exact R2.out.1.inw);rintro e w3 ⟨r3,J3,rfl,st3,hr3⟩;have y:=Q0h (st3.heap (R2.out.1.heap PH.out.out (fun x=>x)) (fun x=>x));obtain⟨⟨y30,y31,y32,y33,y34,y35⟩,⟨f30,f31,f32,f33,f34,f35⟩⟩:=y;have z:=Q0h (st3.heap (R2.out.1.heap PH.out.box (fun x=>x)) (fun x=>x));obtain⟨⟨_,_,_,_,z34,z35⟩,_⟩:=z;have x3:=S2.out.1.at (st3.inw.mono (gT (gT PH.out.step.le R2.out.1.le) st3.le));have t:=S2.out.2.at (st3.inw.mono (gT (gT PH.out.step.le R2.out.1.le) st3.le));obtain⟨t30,t31,t32,t33,t34,t35⟩:=t;have R3:=Hd (And.intro st3 hr3);clear st3 hr3 y20 y21 y22 y23 y24 y25 f20 f21 f22 f23 f24 f25 z24 z25 x2 t20 t21 t22 t23 t24 t25;unfold V6.agg;try go_wp2_with fail
 refine hK.out _ _ ?_ (fun hHeld=>?_)
 ·first|go_keep|(simp only[Q1f n1,Q1f n2,Q1f n3];exact⟨z34,z35,x3,t30,t31,t32,t33,t34,t35⟩)
 clear hK K;try refine yp ?_
 refine wpAnyH_ready (rs:=[13]) kr b0f ?_;refine AllReadyH.cons rfl (fun K hK=>?_) AllReadyH.nil;go_simp;refine hK.out _ _ ?_ (fun hHeld=>?_)
 ·first|go_keep|(simp only[Q1f n1,Q1f n2,Q1f n3];exact⟨z34,z35,x3,t30,t31,t32,t33,t34,t35⟩)
 clear hK K;try refine yp ?_
 refine wpAnyH_done kr ?_ _;refine NoPanic.normal ?_;have st3:=PH.out.step.drew.trans0 (R2.out.1.trans0 R3.out.1);have o3:=R3.out.1.heap (R2.out.1.heap PH.out.out (fun x=>x)) (fun x=>x);have e3:=Z6m o3 (.int .i64 r3.k) (.int .i64 r3.n) (.float .f64 r3.f) (.string r3.s) (.slice r3.a1 r3.n1 r3.c1) (.slice r3.a2 r3.n2 r3.c2);have j1:J3 (w.heap.size+1)=none:=(R3.out.1.old _ (R2.out.1.lt hb1) (fun x=>x)).trans ((R2.out.1.old _ hb1 (fun x=>x)).trans PH.out.no1);have j2:J3 (w.heap.size+1+1)=none:=(R3.out.1.old _ (R2.out.1.lt hb2) (fun x=>x)).trans ((R2.out.1.old _ hb2 (fun x=>x)).trans PH.out.no2);have PM':PMs I w k n f s (some ⟨b1,o1,none⟩) ks.length c1 (some ⟨b2,o2,none⟩) l.length c2 ks l (i+1) J3 (w3.setRow (w.heap.size+1+1) (L0a r3).toArray) r3:=by
  refine⟨st3.setRow j2 (fun hb=>absurd hb om) _,?_,?_,setRow_heap _ _ _ _ _ _ o3,?_,j1,j2⟩
  ·exact(setRow_other _ _ _ _ om).trans (R3.out.1.heap (R2.out.1.heap PH.out.box (fun x=>x)) (fun x=>x))
  ·exact(setRow_other _ _ _ _ om).trans (R3.out.1.heap (R2.out.1.heap PH.out.res (fun x=>x)) (fun x=>x))
  ·exact e1c
 have PM2:=Hd PM';clear st3 o3 j1 j2 PM';simp only[e3];clear e3 y30 y31 y32 y33 y34 y35 f30 f31 f32 f33 f34 f35 z34 z35 x3 t30 t31 t32 t33 t34 t35;try clear u0 u1 u2 u3 u4 u5 d0 d1 d2 d3 d4 d5 dk p0 p1 p2 p3 p4 p5
 try clear n1 n2 n3
 go_wp2_with fail
 go_roundg (ks.length -(i+1))
 case measure=>have:=HX.out.2.1;omega
 case rel=>exact⟨i+1,J3,r3,rfl,by omega,by omega,rfl,PM2.out⟩):P:=h
theorem plainMap_t(N:Nat)(HC:CleanH N)(I:Gh)(k n:Int)(f:Nat)(s:BA)(a1:OA)(c1:Nat)(a2:OA)(c2:Nat)(vs:List V6)(ks:List BA)(l:List IV)(w:World)(hi:I.In w)
  (hm:l.length<=2 ^ 32)(hm2:ks.length<=2 ^ 32)(h1:Q4h I a1 ks)(h2:Q6n I a2 vs)(hks:∀x∈ks,ByteArray.size x<=maxLen)(ha:All2 (VIs I) vs l)(hb:∀(i:Nat) x,l[i]?=some x->x.bulk<N):
  Calls prog 70 #[.agg (L0e k n f s a1 ks.length c1 a2 l.length c2).toArray] w fun e w'=>∃(r:V6) (J:Gh),e=.returned r.agg/\Step Nix I J w w'/\VIs J r (Tr.map (mkM [] ks (trL l))).iv:=by
 have HA:=Hd ha;have H1:=Hd h1;have H2:=Hd h2;have HB:=Hd hb;have HK:=Hd hks;clear ha h1 h2 hb hks;go_enter func70,ntmps70;have q:=Q1b (w:=(w.alloc (.cells (L0e k n f s a1 ks.length c1 a2 l.length c2).toArray 35)).alloc (.cells L0c.toArray 35)) (o:=.cells L0c.toArray 35) (n:=w.heap.size+1+1) b0f;go_wp2_with (refine wpList_store_row rf 35 _ _ rf (w.heap.size+1+1) L1q.toArray rf rf 35 _ q sz35 rfl (one6 rfl rfl rfl rfl rfl rfl) ?_)
 go_loopg [4] ks.length (fun g x wr=>∃i J r,x=.int .i64 (i:Nat)/\i<=ks.length/\i<=l.length/\g=ks.length -i/\PMs I w k n f s a1 ks.length c1 a2 l.length c2 ks l i J wr r)
 case atStart=>
  refine⟨0,I,⟨6,0,0,⟨#[]⟩,none,0,0,none,0,0⟩,rfl,Nat.zero_le _,Nat.zero_le _,rfl,⟨((((Step.refl hi).alloc _).alloc _).alloc _).setRow (hi.none om) (fun hb=>absurd hb om) _,?_,?_,?_,?_,hi.none om,hi.none om⟩⟩
  ·exact(setRow_other _ _ _ _ om).trans ((Q0m b1r).trans ((Q0m b0f).trans (Q1b rfl)))
  ·exact(setRow_other _ _ _ _ om).trans ((Q0m b0f).trans (Q1b b0f))
  ·exact setRow_heap _ _ _ _ _ _ q
  ·exact e1e
 case round=>
  obtain⟨i,J,r,rfl,hik,hil,hg,PM⟩:=hrel;have p:=Q0h PM.box;obtain⟨⟨p0,p1,p2,p3,p4,p5⟩,_⟩:=p;by_cases hk:i<ks.length
  ·by_cases hl:i<l.length
   ·obtain⟨key,hkey⟩:∃x,ks[i]?=some x:=gx hk;obtain⟨x,hx⟩:∃x,l[i]?=some x:=gx hl;obtain⟨v,hv⟩:∃v,vs[i]?=some v:=gx (by rw[HA.out.length];exact hl);have inI:=PM.step.inw.mono PM.step.le;obtain⟨b1,o1,rfl,hs1⟩:∃b o,a1=some ⟨b,o,none⟩/\I.cell ⟨b,o+i,none⟩ (.string key):=by
     rcases H1.out with⟨_,e⟩|⟨b,o,e,h⟩
     ·rw[e]at hkey;simp at hkey
     ·exact⟨b,o,e,h i key hkey⟩
    obtain⟨b2,o2,rfl,hs2⟩:∃b o,a2=some ⟨b,o,none⟩/\Six I b (o+i*6) v:=by
     rcases H2.out with⟨_,e⟩|⟨b,o,e,h⟩
     ·rw[e]at hv;simp at hv
     ·exact⟨b,o,e,h i v hv⟩
    have d:=hs2.at inI;obtain⟨d0,d1,d2,d3,d4,d5⟩:=d;have dk:=hs1.at inI;have o:=Q0h PM.out;obtain⟨⟨u0,u1,u2,u3,u4,u5⟩,_⟩:=o;have hV:=(HA.out.get hv hx).mono PM.step.le;have HX:=Hd (nd5 hx hg (HB.out i x hx) hkey (HK.out key (mem_of_getElem? hkey)));have PH:=Hd PM;have VH:=Hd hV;have S2:=Hd (And.intro hs1 hs2);have hsz:w.heap.size<=wr.heap.size:=PM.step.size;have hb0:=Q1r PM.box;have hb1:=Q1r PM.res;have hb2:=Q1r PM.out;clear hx hg PM hV hkey hs1 hs2 inI hv;have n1:¬b1=w.heap.size+1+1:=by have:=S2.out.1.lt hi;omega
    have n2:¬b2=w.heap.size+1+1:=by have:=S2.out.2.c0.lt hi;omega
    have n3:¬w.heap.size=w.heap.size+1+1:=by omega
    go_upto_region 5 with fail;refine wp_region_noPanic ?_;refine wp_region_held_drew (S:=(fun W=>W.cell? ⟨w.heap.size,4,none⟩=some (.slice (some ⟨b1,o1,none⟩) ks.length c1)/\W.cell? ⟨w.heap.size,5,none⟩=some (.slice (some ⟨b2,o2,none⟩) l.length c2)/\W.cell? ⟨b1,o1+i,none⟩=some (.string key)/\W.cell? ⟨b2,o2+i*6,none⟩=some (.int .i64 v.k)/\W.cell? ⟨b2,o2+i*6+1,none⟩=some (.int .i64 v.n)/\W.cell? ⟨b2,o2+i*6+2,none⟩=some (.float .f64 v.f)/\W.cell? ⟨b2,o2+i*6+3,none⟩=some (.string v.s)/\W.cell? ⟨b2,o2+i*6+4,none⟩=some (.slice v.a1 v.n1 v.c1)/\W.cell? ⟨b2,o2+i*6+5,none⟩=some (.slice v.a2 v.n2 v.c2))) kr ?_ (fun hHeld=>?_)
    ·go_keep
    refine wpAnyH_take (i:=1) (v:=?_) rfl kr kr kr (fun _ _ _ h=>h) (Or.inl ⟨by rfl,?_⟩) b2d ?_;rotate_left
    ·intro w hSw;exact e0l
    try refine yp ?_
    refine wpAnyH_take (i:=2) (v:=?_) rfl kr kr kr (fun _ _ _ h=>h) (Or.inl ⟨by rfl,?_⟩) b2d ?_;rotate_left
    ·intro w hSw;exact e0l
    try refine yp ?_
    refine wpAnyH_take (i:=3) (v:=?_) rfl kr kr kr (fun _ _ _ h=>h) (Or.inl ⟨by rfl,?_⟩) b2d ?_;rotate_left
    ·intro w hSw;exact e0l
    try refine yp ?_
    refine wpAnyH_take (i:=4) (v:=?_) rfl kr kr kr (fun _ _ _ h=>h) (Or.inl ⟨by rfl,?_⟩) b2d ?_;rotate_left
    ·intro w hSw;exact e0l
    try refine yp ?_
    refine wpAnyH_take (i:=5) (v:=?_) rfl kr kr kr (fun _ _ _ h=>h) (Or.inl ⟨by rfl,?_⟩) b2d ?_;rotate_left
    ·intro w hSw;exact e0l
    try refine yp ?_
    refine wpAnyH_take (i:=6) (v:=?_) rfl kr kr kr (fun _ _ _ h=>h) (Or.inl ⟨by rfl,?_⟩) b2d ?_;rotate_left
    ·intro w hSw;exact e0l
    try refine yp ?_
    refine wpAnyH_take (i:=7) (v:=?_) rfl kr kr kr (fun _ _ _ h=>h) (Or.inl ⟨by rfl,?_⟩) b2d ?_;rotate_left
    ·intro w hSw;exact e0l
    try refine yp ?_
    refine wpAnyH_take (i:=8) (v:=?_) rfl kr kr kr (fun _ _ _ h=>h) (Or.inl ⟨by rfl,?_⟩) b2d ?_;rotate_left
    ·intro w hSw;exact e0l
    try refine yp ?_
    refine wpAnyH_take (i:=9) (v:=?_) rfl kr kr kr (fun _ _ _ h=>h) (Or.inl ⟨by rfl,?_⟩) b2d ?_;rotate_left
    ·intro w hSw;exact e0l
    try refine yp ?_
    refine wpAnyH_take (i:=10) (v:=?_) rfl kr kr kr (fun _ _ _ h=>h) (Or.inl ⟨by rfl,?_⟩) b2d ?_;rotate_left
    ·intro w hSw;exact e0l
    try refine yp ?_
    refine wpAnyH_ready (rs:=[0,11]) kr b0f ?_;refine AllReadyH.cons rfl (fun K hK=>?_) ?_
    ·skip;go_simp;refine hK.out _ _ ?_ (fun hHeld=>?_)
     ·first|go_keep|(simp only[Q1f n1,Q1f n2,Q1f n3];exact⟨z34,z35,x3,t30,t31,t32,t33,t34,t35⟩)
     clear hK K;try refine yp ?_
     refine wpAnyH_ready (rs:=[11]) kr b0f ?_;refine AllReadyH.cons rfl (fun K hK=>?_) AllReadyH.nil;go_simp;refine(HC J v x _ HX.out.2.2.1 ?_ VH.out).mono ?_;(exact PH.out.step.inw);rintro e w2 ⟨r2,J2,rfl,st2,hr2⟩;have y:=Q0h (st2.heap PH.out.out (fun x=>x));obtain⟨⟨y20,y21,y22,y23,y24,y25⟩,⟨f20,f21,f22,f23,f24,f25⟩⟩:=y;have z:=Q0h (st2.heap PH.out.box (fun x=>x));obtain⟨⟨_,_,_,_,z24,z25⟩,_⟩:=z;have x2:=S2.out.1.at (st2.inw.mono (gT PH.out.step.le st2.le));have t:=S2.out.2.at (st2.inw.mono (gT PH.out.step.le st2.le));obtain⟨t20,t21,t22,t23,t24,t25⟩:=t;have R2:=Hd (And.intro st2 hr2);clear st2 hr2;try go_wp2_with fail
     exact z0i
    refine AllReadyH.cons rfl (fun K hK=>?_) AllReadyH.nil;go_simp;refine(HC J v x _ HX.out.2.2.1 ?_ VH.out).mono ?_;(exact PH.out.step.inw);rintro e w2 ⟨r2,J2,rfl,st2,hr2⟩;have y:=Q0h (st2.heap PH.out.out (fun x=>x));obtain⟨⟨y20,y21,y22,y23,y24,y25⟩,⟨f20,f21,f22,f23,f24,f25⟩⟩:=y;have z:=Q0h (st2.heap PH.out.box (fun x=>x));obtain⟨⟨_,_,_,_,z24,z25⟩,_⟩:=z;have x2:=S2.out.1.at (st2.inw.mono (gT PH.out.step.le st2.le));have t:=S2.out.2.at (st2.inw.mono (gT PH.out.step.le st2.le));obtain⟨t20,t21,t22,t23,t24,t25⟩:=t;have R2:=Hd (And.intro st2 hr2);clear st2 hr2;try go_wp2_with fail
    refine hK.out _ _ ?_ (fun hHeld=>?_)
    ·first|go_keep|(simp only[Q1f n1,Q1f n2,Q1f n3];exact⟨z34,z35,x3,t30,t31,t32,t33,t34,t35⟩)
    clear hK K;try refine yp ?_
    refine wpAnyH_ready (rs:=[0]) kr b0f ?_;refine AllReadyH.cons rfl (fun K hK=>?_) AllReadyH.nil;go_simp;exact z0i
   ·obtain rfl:i=l.length:=by omega
    have PH:=Hd PM;have ho:=PM.out;have hr:=PM.res;have qR:=Hd (setRow_heap _ (w.heap.size+1) _ (L0a r).toArray 35 (0,0) hr);clear PM hg p0 p1 p2 p3;go_wp2_with (first|refine wpList_load_row rf 35 _ rf (w.heap.size+1+1) rf 35 _ _ _ ho underlying35 rfl sz35 ?_|refine wpList_store_row rf 35 _ _ rf (w.heap.size+1) (L0a r).toArray rf rf 35 _ hr sz35 rfl (one6 rfl rfl rfl rfl rfl rfl) ?_)
    refine bT ?_;refine⟨r,J,rfl,PH.out.step.setRow PH.out.no1 (fun hb=>absurd hb om) _,?_⟩;have:=PH.out.val;unfold X0g at this;rw[Z3a [] ks (trL l) l.length (.inr (by rw[Q9i];simp))]at this;exact this
  ·obtain rfl:i=ks.length:=by omega
   have PH:=Hd PM;have ho:=PM.out;have hr:=PM.res;have qR:=Hd (setRow_heap _ (w.heap.size+1) _ (L0a r).toArray 35 (0,0) hr);clear PM hg p0 p1 p2 p3;go_wp2_with (first|refine wpList_load_row rf 35 _ rf (w.heap.size+1+1) rf 35 _ _ _ ho underlying35 rfl sz35 ?_|refine wpList_store_row rf 35 _ _ rf (w.heap.size+1) (L0a r).toArray rf rf 35 _ hr sz35 rfl (one6 rfl rfl rfl rfl rfl rfl) ?_)
   refine bT ?_;refine⟨r,J,rfl,PH.out.step.setRow PH.out.no1 (fun hb=>absurd hb om) _,?_⟩;have:=PH.out.val;unfold X0g at this;rw[Z3a [] ks (trL l) ks.length (.inl (Nat.le_refl _))]at this;exact this
end
section
theorem X4x(I:Gh)(a2:OA)(c2:Nat)(w:World)(hi:I.In w):
  Calls prog 69 #[.slice a2 0 c2] w fun e w'=>∃A i c J rs,e=.returned (.slice A i c)/\i=([]:List IV).length/\PLs I w [] i A c J w' rs:=by
 obtain⟨i5,hi5,hy0,hy1,hy2⟩:=info_parts info35;go_enter func69,ntmps69;go_wp2_with (at_make;refine wpList_make_own _ rfl _ _ 33 rfl w.heap.size 35 i5 _ 6 underlying33 hi5 hy0 hy1 .i64 .i64 _ 0 rfl rfl rfl om (Nat.zero_le _) (Nat.le_refl _) ?_;intro w0 hown hgrow)
 have hs0:Step Nix I I w w0:=(Step.refl hi).grown hgrow fun k hk=>by cases hk
 have hn0:∀g,(Value.slice (some ⟨w.heap.size,0,none⟩) 0 0).ownBlock=some g->I g=none:=fun g hg=>hi.none (Q2e hown hg).1;have PL:PLs I w [] 0 (some ⟨w.heap.size,0,none⟩) 0 I w0 []:=⟨hs0,hown,.nil,rfl,hn0⟩
 go_rounds 1;go_wp2_with fail
 go_ret;exact⟨_,_,_,I,[],rfl,rfl,PL⟩
theorem PLs.freeze{w W:World}{l:List IV}{A:OA}{c:Nat}{J:Gh}{rs:List V6}(h:PLs I w l l.length A c J W rs)(hi:I.In w):
  ∃J':Gh,Step Nix I J' w W/\∀(k n:Int) (f:Nat),VIs J' ⟨k,n,f,⟨#[]⟩,none,0,0,A,l.length,c⟩ (.mk k n f ⟨#[]⟩ [] (ivL (trL l))):=by
 haveI:DecidablePred fun g=>some g=(Value.slice A l.length c).ownBlock:=fun g=>inferInstance;have st:=h.step.freeze (fun g=>some g=(Value.slice A l.length c).ownBlock) (fun g hg=>h.no g hg.symm) (fun g hg hb=>absurd hb (by have:=(Q2e h.own hg.symm).1;omega));have hlen:rs.length=l.length:=h.len;have own:W.ownsRow w.heap.size 35 6 (.slice A l.length c) rs.length (Q4l rs):=by rw[hlen];exact h.own
 obtain⟨a2,c2,e,hl1,hl2,h2⟩:=Z7f own (J:=J.with (fun g=>some g=(Value.slice A l.length c).ownBlock) W) (fun g hg=>by unfold Gh.with;rw[if_pos hg.symm]);injection e with e1 e2 e3;subst e1 e3;refine⟨_,st,fun k n f=>?_⟩;have hall:All2 (VIs (J.with (fun g=>some g=(Value.slice A l.length c).ownBlock) W)) rs (ivL (trL l)):=by
  have:=h.all;rw[take_length]at this;rw[Q9i,Z6k,List.map_map];exact this.imp fun a b hab=>hab.mono (Gh.le_with fun g hg=>h.no g hg.symm)
 have hL:(ivL (trL l)).length=l.length:=by rw[Q9i,Z6k];simp
 have:=VIs.of (I:=J.with (fun g=>some g=(Value.slice A l.length c).ownBlock) W) k n f ⟨#[]⟩ none 0 [] A c (ivL (trL l)) b0t ⟨Nat.le_refl _,by decide⟩ (fun x hx=>absurd hx b0f) (.inl ⟨rfl,rfl⟩) ⟨by omega,hl2⟩ h2 hall;rw[hL]at this;exact this
theorem X3i:∀N,N<=2 ^ 32->CleanH N
 |0,_=>fun J v x w hx _ _=>absurd hx (Nat.not_lt_zero _)
 |N+1,hN=>fun J v x w hx hi hv=>by
  have HC:=X3i N om;obtain⟨k,n,f,s,ks,l⟩:=x;obtain⟨a1,c1,a2,c2,vs,rfl,hs,hk,hks,h1,hn,h2,ha⟩:=hv.inv;have hb:∀(i:Nat) x,l[i]?=some x->x.bulk<N:=fun i x h=>by
   have:=X3o h;unfold IV.bulk at hx;omega
  have hl:l.length<=2 ^ 32:=by
   have:=Z2r l;unfold IV.bulk at hx;omega
  have hkl:ks.length<=2 ^ 32:=by
   have:=Z9t ks;unfold IV.bulk at hx;omega
  simp only[IV.k,IV.n,IV.f,IV.s,IV.ks,IV.l]at hs hk hks h1 hn h2 ha⊢;have scalar:∀{t:Tr} {u:V6},(IV.mk k n f s ks l).tr=t->VIs J u t.iv->∀e w',Z3v J w u e w'->CleanR J w (.mk k n f s ks l) e w':=fun ht hu e w' h=>by
   cases h with
   |mk st=>exact⟨_,J,rfl,st,by rw[ht];exact hu⟩
  have E:ByteArray.size ⟨#[]⟩<=maxLen:=by decide
  have flat:∀(k n:Int) (f:Nat) (s:BA),s.size<=maxLen->VIs J ⟨k,n,f,s,none,0,0,none,0,0⟩ (.mk k n f s [] []):=fun k n f s hs=>
   VIs.of k n f s none 0 [] none 0 (vs:=[]) [] hs ⟨Nat.le_refl _,by decide⟩ (fun x hx=>absurd hx b0f) (.inl ⟨rfl,rfl⟩) ⟨Nat.le_refl _,by decide⟩ (.inl ⟨rfl,rfl⟩) .nil
  by_cases k1:k=1
  ·subst k1;cases hb:(n != 0)with
   |true=>exact(clean_b1 J n hb f s a1 _ c1 a2 _ c2 w hi).mono (scalar (t:=.bool true) (by simp[IV.tr,hb]) (flat 1 1 0 ⟨#[]⟩ E))
   |false=>exact(clean_b0 J n hb f s a1 _ c1 a2 _ c2 w hi).mono (scalar (t:=.bool false) (by simp[IV.tr,hb]) (flat 1 0 0 ⟨#[]⟩ E))
  by_cases k2:k=2
  ·subst k2;exact(clean_i J n f s a1 _ c1 a2 _ c2 w hi).mono (scalar (t:=.int n) (by simp[IV.tr]) (flat 2 n 0 ⟨#[]⟩ E))
  by_cases k3:k=3
  ·subst k3;exact(clean_f J n f s a1 _ c1 a2 _ c2 w hi).mono (scalar (t:=.flt f) (by simp[IV.tr]) (flat 3 0 f ⟨#[]⟩ E))
  by_cases k4:k=4
  ·subst k4;exact(clean_s J n f s a1 _ c1 a2 _ c2 w hi).mono (scalar (t:=.str s) (by simp[IV.tr]) (flat 4 0 0 s hs))
  by_cases k5:k=5
  ·subst k5;have ht:(IV.mk 5 n f s ks l).tr=.list (trL l):=by simp[IV.tr]
   refine(clean_l (fun A N C J'=>N=l.length/\VIs J' ⟨5,0,0,⟨#[]⟩,none,0,0,A,l.length,C⟩ (.mk 5 0 0 ⟨#[]⟩ [] (ivL (trL l)))) J n f s a1 _ c1 a2 l.length c2 w hi fun w hi=>?_).mono ?_
   ·rcases h2 with⟨_,rfl⟩|⟨b2,o2,rfl,h2⟩
    ·cases ha;refine(X4x J a2 c2 w hi).mono ?_;rintro e w' ⟨A,i,c,J1,rs,rfl,rfl,PL⟩;obtain⟨J2,st,h⟩:=PL.freeze hi;exact⟨A,_,c,J2,rfl,st,rfl,h 5 0 0⟩
    ·refine(X5s N HC J b2 o2 c2 vs l w hi hl h2 ha hb).mono ?_;rintro e w' ⟨A,i,c,J1,rs,rfl,rfl,PL⟩;obtain⟨J2,st,h⟩:=PL.freeze hi;exact⟨A,_,c,J2,rfl,st,rfl,h 5 0 0⟩
   ·rintro e w' ⟨A,N',C,J',rfl,st,rfl,h⟩;exact⟨_,J',rfl,st,by rw[ht];exact h⟩
  by_cases k6:k=6
  ·subst k6;have ht:(IV.mk 6 n f s ks l).tr=.map (mkM [] ks (trL l)):=by simp[IV.tr]
   refine(clean_m (fun r J'=>VIs J' r (Tr.map (mkM [] ks (trL l))).iv) J n f s a1 _ c1 a2 _ c2 w hi fun w hi=>?_).mono ?_
   ·exact plainMap_t N HC J 6 n f s a1 c1 a2 c2 vs ks l w hi hl hkl h1 h2 hks ha hb
   ·rintro e w' ⟨r,J',rfl,st,h⟩;exact⟨r,J',rfl,st,by rw[ht];exact h⟩
  exact(clean_0 J k n (by simpa using k1) (by simpa using k2) (by simpa using k3) (by simpa using k4) (by simpa using k5) (by simpa using k6) f s a1 _ c1 a2 _ c2 w hi).mono
   (scalar (t:=.null) (by simp[IV.tr,k1,k2,k3,k4,k5,k6]) (flat 0 0 0 ⟨#[]⟩ E))
theorem Q7j{v:V6}{x:IV}(hv:VIs I v x)(hx:x.bulk<2 ^ 32)(w:World)(hi:I.In w):Calls prog 24 #[v.agg] w (CleanR I w x):=
 X3i (2 ^ 32) (Nat.le_refl _) I v x w hx hi hv
end
section
def Tr.kids:Tr->List Tr
 |.list l=>l
 |.map m=>m.map (·.2)
 |_=>[]
theorem iv_l(t:Tr):t.iv.l=t.kids.map Tr.iv:=by
 cases t<;>simp[Tr.iv,IV.l,Tr.kids,Z6k,Z0n]
theorem iv_k(t:Tr):t.iv.k=(t.kind:Int):=by cases t<;>rfl
variable{u t:Tr}
theorem X3m{l:List Tr}(h:u∈l):u.bulk<=Z2i l:=by
 induction l with
 |nil=>cases h
 |cons a l ih=>
  unfold Z2i;rcases List.mem_cons.1 h with e|e
  ·rw[e];omega
  ·have:=ih e;omega
theorem Q4i{m:KT}{p:BA×Tr}(h:p∈m):1+p.1.size+p.2.bulk<=Q3m m:=by
 induction m with
 |nil=>cases h
 |cons a m ih=>
  obtain⟨k,t⟩:=a;unfold Q3m;rcases List.mem_cons.1 h with e|e
  ·subst e;simp only;omega
  ·have:=ih e;omega
theorem Z1i(hu:u∈t.kids):u.bulk<t.bulk:=by
 cases t with
 |list l=>have:=X3m (l:=l) hu;simp only[Tr.bulk];omega
 |map m=>obtain⟨p,hp,rfl⟩:=List.mem_map.1 hu;have:=Q4i hp;simp only[Tr.bulk];omega
 |_=>cases hu
theorem Z0e(t:Tr):t.kids.length<=t.bulk:=by
 cases t with
 |list l=>have:=Z6d l;simp only[Tr.bulk,Tr.kids];omega
 |map m=>have:=Z2d m;simp only[Tr.bulk,Tr.kids,length_map];omega
 |_=>exact Nat.zero_le _
theorem nodes_kids(t:Tr):nodesT t=1+(t.kids.map nodesT).sum:=by
 have hl:∀l:List Tr,Z3z l=(l.map nodesT).sum:=fun l=>by
  induction l with
  |nil=>rfl
  |cons a l ih=>rw[Z3z,ih];simp
 have hm:∀m:KT,Z3u m=((m.map (·.2)).map nodesT).sum:=fun m=>by
  induction m with
  |nil=>rfl
  |cons a m ih=>obtain⟨k,a⟩:=a;rw[Z3u,ih];simp
 cases t<;>simp[nodesT,Tr.kids,hl,hm]
mutual
theorem Z3s:∀t:Tr,nodesT t<=t.bulk
 |.null=>by simp[nodesT,Tr.bulk]
 |.bool _=>by simp[nodesT,Tr.bulk]
 |.int _=>by simp[nodesT,Tr.bulk]
 |.flt _=>by simp[nodesT,Tr.bulk]
 |.str _=>by simp[nodesT,Tr.bulk]
 |.list l=>by have:=Z5r l;simp only[nodesT,Tr.bulk];omega
 |.map m=>by have:=Z6y m;simp only[nodesT,Tr.bulk];omega
theorem Z5r:∀l:List Tr,Z3z l<=Z2i l
 |[]=>Nat.le_refl _
 |t::l=>by have:=Z3s t;have:=Z5r l;simp only[Z3z,Z2i];omega
theorem Z6y:∀l:KT,Z3u l<=Q3m l
 |[]=>Nat.le_refl _
 |(k,t)::l=>by have:=Z3s t;have:=Z6y l;simp only[Z3u,Q3m];omega
end
theorem X1v(t:Tr):Q1c t=((match t with
  |.int n=>decide (-9007199254740992<=n)&&decide (n<=9007199254740992)
  |.flt f=>feq f f
  |_=>true)&&t.kids.all Q1c):=by
 have hl:∀l:List Tr,Z0i l=l.all Q1c:=fun l=>by
  induction l with
  |nil=>rfl
  |cons a l ih=>rw[Z0i,ih];rfl
 have hm:∀m:KT,Q4u m=(m.map (·.2)).all Q1c:=fun m=>by
  induction m with
  |nil=>rfl
  |cons a m ih=>obtain⟨k,a⟩:=a;rw[Q4u,ih];rfl
 cases t<;>simp[Q1c,Tr.kids,hl,hm]
theorem X5g(m:KT):Q1i (.map m)=(m.map (·.2)).all Q1i:=by
 have hm:∀m:KT,Q7f m=(m.map (·.2)).all Q1i:=fun m=>by
  induction m with
  |nil=>rfl
  |cons a m ih=>obtain⟨k,a⟩:=a;rw[Q7f,ih];rfl
 rw[Q1i,hm]
variable{i:Nat}
theorem take_sum{α:Type}(f:α->Nat){l:List α}{a:α}(h:l[i]?=some a):((l.take (i+1)).map f).sum=((l.take i).map f).sum+f a:=by
 rw[List.take_add_one,h];simp
theorem X3u{α:Type}(f:α->Nat)(l:List α)(i:Nat):((l.take i).map f).sum<=(l.map f).sum:=by
 induction l generalizing i with
 |nil=>simp
 |cons a l ih=>cases i with
  |zero=>simp
  |succ i=>have:=ih i;rw[List.take_succ_cons,map_cons,sum_cons,map_cons,sum_cons];omega
theorem Z8y{α:Type}(f:α->Bool){l:List α}{a:α}(h:l[i]?=some a):(l.take (i+1)).all f=((l.take i).all f&&f a):=by
 rw[List.take_add_one,h];simp
theorem VIs.kids{I:Gh}{v:V6}(h:VIs I v t.iv):∃(a1:OA) (c1:Nat) (a2:OA) (c2:Nat) (vs:List V6),
  v=⟨t.kind,t.iv.n,t.iv.f,t.iv.s,a1,t.iv.ks.length,c1,a2,t.kids.length,c2⟩/\Q4h I a1 t.iv.ks/\(t.kids.length<=c2/\c2<=maxLen)/\Q6n I a2 vs/\All2 (fun v u=>VIs I v u.iv) vs t.kids/\(t.iv.ks.length<=c1/\c1<=maxLen)/\(∀y∈t.iv.ks,ByteArray.size y<=maxLen):=by
 obtain⟨a1,c1,a2,c2,vs,e,hs,hk,hks,h1,hn,h2,ha⟩:=h.inv;rw[iv_l]at hn ha e;rw[iv_k]at e;refine⟨a1,c1,a2,c2,vs,by rw[e,length_map],h1,by simpa using hn,h2,?_,hk,hks⟩;have hlen:=ha.length;refine All2.of (by simpa using hlen) fun i a b hi hb=>ha.get hi (by rw[getElem?_map,hb];rfl)
end
section
mutual
theorem Q3s:∀t:Tr,t.iv.bulk=t.bulk
 |.null=>by simp[Tr.iv,IV.bulk,Tr.bulk,Q4w];rfl
 |.bool _=>by simp[Tr.iv,IV.bulk,Tr.bulk,Q4w];rfl
 |.int _=>by simp[Tr.iv,IV.bulk,Tr.bulk,Q4w];rfl
 |.flt _=>by simp[Tr.iv,IV.bulk,Tr.bulk,Q4w];rfl
 |.str _=>by simp[Tr.iv,IV.bulk,Tr.bulk,Q4w]
 |.list l=>by have:=X7a l;have e:ByteArray.size ⟨#[]⟩=0:=rfl;simp only[Tr.iv,IV.bulk,Tr.bulk,this,e,List.map_nil,List.sum_nil];omega
 |.map m=>by have:=X6r m;have e:ByteArray.size ⟨#[]⟩=0:=rfl;simp only[Tr.iv,IV.bulk,Tr.bulk,e,List.map_map]at*;simp only[Function.comp_def]at*;omega
theorem X7a:∀l:List Tr,Q4w (ivL l)=Z2i l
 |[]=>rfl
 |t::l=>by have:=Q3s t;have:=X7a l;simp only[ivL,Q4w,Z2i];omega
theorem X6r:∀m:KT,(m.map fun p=>1+p.1.size).sum+Q4w (ivM m)=Q3m m
 |[]=>rfl
 |(k,t)::m=>by have:=Q3s t;have:=X6r m;simp only[ivM,Q4w,Q3m,map_cons,sum_cons];omega
end
structure Two(I:Gh)(w:World)(ta tb:Tr)(J:Gh)(W:World)(ra rb:V6):Prop where
 step:Step Nix I J w W
 a:W.heap[w.heap.size]?=some (.cells (L0a ra).toArray 35 (0,0))
 b:W.heap[w.heap.size+1]?=some (.cells (L0a rb).toArray 35 (0,0))
 va:VIs J ra ta.iv
 vb:VIs J rb tb.iv
 na:J w.heap.size=none
 nb:J (w.heap.size+1)=none
theorem X2n{a b:Tr}(h:(a.isMap&&b.isMap)=false):Q2d a b=((a.isMap==b.isMap)&&(a.isList==b.isList)):=by
 cases a<;>cases b<;>simp[Q2d,Tr.isMap,Tr.isList]at h⊢
def Z5b(mb:KT)(p:BA×Tr):Bool:=match findK mb p.1 with
 |some u=>Q2d p.2 u
 |none=>true
theorem Z2t(m mb:KT):Q7l m mb=m.all (Z5b mb):=by
 induction m with
 |nil=>rfl
 |cons p m ih=>obtain⟨k,t⟩:=p;rw[Q7l,ih];rfl
theorem Q8n(t:Tr):((t.kind:Int)==6)=t.isMap:=by cases t<;>rfl
theorem Q7n(t:Tr):((t.kind:Int) != 6)=!t.isMap:=by cases t<;>rfl
theorem X1b(t:Tr):((t.kind:Int)==5)=t.isList:=by cases t<;>rfl
variable{ra rb:V6}{w W:World}{I J:Gh}{ta tb:Tr}
theorem Two.later{W':World}(h:Two I w ta tb J W ra rb)(st:Step Nix J J W W'):Two I w ta tb J W' ra rb:=
 ⟨h.step.trans0 st,st.heap h.a (fun x=>x),st.heap h.b (fun x=>x),h.va,h.vb,h.na,h.nb⟩
theorem Two.drewN(h:Two I w ta tb J W ra rb)(n:Nat):Two I w ta tb J (W.drewN n) ra rb:=
 ⟨h.step.drewN n,h.a,h.b,h.va,h.vb,h.na,h.nb⟩
theorem Two.drew(h:Two I w ta tb J W ra rb):Two I w ta tb J W.drew ra rb:=
 ⟨h.step.drew,h.a,h.b,h.va,h.vb,h.na,h.nb⟩
def AlikeH(N:Nat):Prop:=∀(J:Gh) (v:V6) (x:IV) (u:V6) (y:IV) (w:World),x.bulk<N->y.bulk<2 ^ 32->J.In w->VIs J v x->VIs J u y->Calls prog 74 #[v.agg,u.agg] w (Got Nix J w (.bool (Q2d x.tr y.tr)))
theorem alike_t(N:Nat)(HC:AlikeH N)(I:Gh)(v:V6)(x:IV)(u:V6)(y:IV)(w:World)(hi:I.In w)(hv:VIs I v x)(hu:VIs I u y)(hxb:x.bulk<2 ^ 32)(hyb:y.bulk<2 ^ 32)(hN:x.bulk<=N):
  Calls prog 74 #[v.agg,u.agg] w (Got Nix I w (.bool (Q2d x.tr y.tr))):=by
 unfold V6.agg;go_enter func74,ntmps74;go_upto_region 1 with fail;have qa:((w.alloc (.cells (L0a v).toArray 35)).alloc (.cells (L0a u).toArray 35)).heap[w.heap.size]?=some (.cells (L0a v).toArray 35 (0,0)):=(Q0m b0f).trans (Q1b rfl);have qb:((w.alloc (.cells (L0a v).toArray 35)).alloc (.cells (L0a u).toArray 35)).heap[w.heap.size+1]?=some (.cells (L0a u).toArray 35 (0,0)):=Q1b b0f;have st0:Step Nix I I w ((w.alloc (.cells (L0a v).toArray 35)).alloc (.cells (L0a u).toArray 35)):=((Step.refl hi).alloc _).alloc _;have pA:=Q0h qa;obtain⟨⟨pa0,pa1,pa2,pa3,pa4,pa5⟩,_⟩:=pA;have pB:=Q0h qb;obtain⟨⟨pb0,pb1,pb2,pb3,pb4,pb5⟩,_⟩:=pB;have la:=Q1r qa;have lb:=Q1r qb;generalize (w.alloc (.cells (L0a v).toArray 35)).alloc (.cells (L0a u).toArray 35)=W0 at*;go_cut [4]from 9 (fun s4 wx=>s4=.bool false/\∃ra rb J,Two I w x.tr y.tr J wx ra rb)
 case first=>
  have nab:¬w.heap.size+1=w.heap.size:=by omega
  have nba:¬w.heap.size=w.heap.size+1:=by omega
  go_region_with (first|go_at_call 24;refine(Q7j (hu.mono R2.out.1.le) hyb _ ?_).mono ?_;(exact R2.out.1.inw);rintro e w3 ⟨r3,J3,rfl,st3,hr3⟩;have zA:=Q0h (st3.heap (R2.out.1.heap qa (fun x=>x)) (fun x=>x));obtain⟨⟨za0,za1,za2,za3,za4,za5⟩,⟨fa0,fa1,fa2,fa3,fa4,fa5⟩⟩:=zA;have zB:=Q0h (st3.heap (R2.out.1.heap qb (fun x=>x)) (fun x=>x));obtain⟨⟨zb0,zb1,zb2,zb3,zb4,zb5⟩,⟨fb0,fb1,fb2,fb3,fb4,fb5⟩⟩:=zB;have R3:=Hd (And.intro st3 hr3);clear st3 hr3 ya0 ya1 ya2 ya3 ya4 ya5 yb0 yb1 yb2 yb3 yb4 yb5;unfold V6.agg|go_at_call 24;refine(Q7j hv hxb _ ?_).mono ?_;(exact st0.inw);rintro e w2 ⟨r2,J2,rfl,st2,hr2⟩;have yA:=Q0h (st2.heap qa (fun x=>x));obtain⟨⟨ya0,ya1,ya2,ya3,ya4,ya5⟩,_⟩:=yA;have yB:=Q0h (st2.heap qb (fun x=>x));obtain⟨⟨yb0,yb1,yb2,yb3,yb4,yb5⟩,_⟩:=yB;have R2:=Hd (And.intro st2 hr2);clear st2 hr2 pa0 pa1 pa2 pa3 pa4 pa5 pb0 pb1 pb2 pb3 pb4 pb5;unfold V6.agg)
  all_goals
   try refine NoPanic.normal ?_
   have hst:=st0.drew.trans0 (R2.out.1.trans0 R3.out.1)
   have oA:=R3.out.1.heap (R2.out.1.heap qa (fun x=>x)) (fun x=>x)
   have oB:=R3.out.1.heap (R2.out.1.heap qb (fun x=>x)) (fun x=>x)
   have jA:J3 w.heap.size=none:=(R3.out.1.old _ (R2.out.1.lt la) (fun x=>x)).trans ((R2.out.1.old _ la (fun x=>x)).trans (hi.none om))
   have jB:J3 (w.heap.size+1)=none:=(R3.out.1.old _ (R2.out.1.lt lb) (fun x=>x)).trans ((R2.out.1.old _ lb (fun x=>x)).trans (hi.none om))
   have e1:=Z6m oA (.int .i64 r2.k) (.int .i64 r2.n) (.float .f64 r2.f) (.string r2.s) (.slice r2.a1 r2.n1 r2.c1) (.slice r2.a2 r2.n2 r2.c2)
   have oB':=(setRow_other _ w.heap.size (w.heap.size+1) (L0a r2).toArray om).trans oB
   have e2:=Z6m oB' (.int .i64 r3.k) (.int .i64 r3.n) (.float .f64 r3.f) (.string r3.s) (.slice r3.a1 r3.n1 r3.c1) (.slice r3.a2 r3.n2 r3.c2)
   simp only[e1,e2]
   go_wp2_with fail
   go_meet
   exact⟨rfl,r2,r3,J3,⟨(hst.setRow jA (fun hb=>absurd hb om) _).setRow jB (fun hb=>absurd hb om) _,(setRow_other _ _ _ _ om).trans (setRow_heap _ _ _ _ _ _ oA),setRow_heap _ _ _ _ _ _ oB',(R2.out.2.mono R3.out.1.le),R3.out.2,jA,jB⟩⟩
 case rest=>
  obtain⟨rfl,ra,rb,J,T⟩:=hcut;clear qa qb st0 pa0 pa1 pa2 pa3 pa4 pa5 pb0 pb1 pb2 pb3 pb4 pb5 la lb;have okA:=x.tr_ok;have okB:=y.tr_ok;have hAb:=Q2o x;have hBb:=Q2o y;generalize x.tr=ta at*;generalize y.tr=tb at*;have TT:=Hd T;have T1:=T.a;have T2:=T.b;obtain⟨a1,c1,a2,c2,vs,eA,sA,nA,xA,aA,kA,zA⟩:=T.va.kids;obtain⟨b1,d1,b2,d2,us,eB,sB,nB,xB,aB,kB,zB⟩:=T.vb.kids;have hsA:=Q0h T1;obtain⟨⟨pa0,pa1,pa2,pa3,pa4,pa5⟩,_⟩:=hsA;have hsB:=Q0h T2;obtain⟨⟨pb0,pb1,pb2,pb3,pb4,pb5⟩,_⟩:=hsB;cases hmA:ta.isMap with
  |false=>
   subst eA eB;simp only at pa0 pa4 pa5 pb0;have f1:=Q8n ta;have f2:=Q7n ta;have f3:=Q8n tb;have f4:=X1b ta;have f5:=X1b tb;have hal:=X2n (a:=ta) (b:=tb) (by rw[hmA];rfl);rw[hmA]at f1 f2 hal;have HAL:=Hd hal;clear hal T1 T2 sA nA xA aA kA zA sB nB xB aB kB zB T pa1 pa2 pa3 pa4 pa5 pb1 pb2 pb3 pb4 pb5;generalize (ta.kind:Int)=kka at*;generalize (tb.kind:Int)=kkb at*;cases hmB:tb.isMap with
   |false=>
    rw[hmB]at f3;go_wp2_with fail
    go_ret;refine⟨?_,TT.out.step.forget⟩;rw[HAL.out,hmB,<-f4,<-f5];rfl
   |true=>
    rw[hmB]at f3;go_wp2_with fail
    go_ret;refine⟨?_,TT.out.step.forget⟩;rw[HAL.out,hmB];rfl
  |true=>
   cases hmB:tb.isMap with
   |false=>
    subst eA eB;simp only at pa0 pa4 pa5 pb0;have f1:=Q8n ta;have f2:=Q7n ta;have f3:=Q8n tb;have f6:=Q7n tb;have hal:=X2n (a:=ta) (b:=tb) (by rw[hmB];simp);rw[hmA]at f1 f2 hal;rw[hmB]at f3 f6 hal;have HAL:=Hd hal;clear hal T1 T2 sA nA xA aA kA zA sB nB xB aB kB zB T pa1 pa2 pa3 pa4 pa5 pb1 pb2 pb3 pb4 pb5;generalize (ta.kind:Int)=kka at*;generalize (tb.kind:Int)=kkb at*;go_wp2_with fail
    go_ret;refine⟨?_,TT.out.step.forget⟩;rw[HAL.out];rfl
   |true=>
    obtain⟨ma,rfl⟩:=Q2q hmA;obtain⟨mb,rfl⟩:=Q2q hmB;have hb6:rb.k=6:=by rw[eB];rfl
    have g1:(rb.k==6)=true:=by rw[hb6];rfl
    have g2:(rb.k != 6)=false:=by rw[hb6];rfl
    clear eB pb1 pb2 pb3 pb4 pb5 pa0 pa1 pa2 pa3 pa4 pa5 hb6 sB nB xB aB kB zB T1 T2 T hmA hmB;obtain⟨ks,hks⟩:∃ks,ks=ma.map (·.1):=⟨_,rfl⟩
    obtain⟨l,hl⟩:∃l,l=ma.map (·.2):=⟨_,rfl⟩
    have eA':ra=⟨6,0,0,⟨#[]⟩,a1,ks.length,c1,a2,l.length,c2⟩:=by rw[hks,hl];exact eA
    subst eA';have sA':Q4h J a1 ks:=by rw[hks];exact sA
    have aA':All2 (fun v u=>VIs J v u.iv) vs l:=by rw[hl];exact aA
    have hm:ks.length<=2 ^ 32:=by have:=Z0e (Tr.map ma);rw[hks];simp only[Tr.kids,length_map]at this⊢;omega
    have hm2:l.length<=2 ^ 32:=by rw[hl];rw[hks]at hm;simpa using hm
    have HA:=Hd (nd5 hks hl sA' aA' xA);have pa:=Q0h TT.out.a;obtain⟨⟨pa0,_,_,_,pa4,pa5⟩,_⟩:=pa;clear sA nA xA aA kA zA sA' aA' hks hl eA;go_wp2_with fail
    go_loopg [40] ks.length (fun g y wr=>∃i:Nat,y=.int .i64 (i:Nat)/\i<=ks.length/\g=ks.length -i/\Two I w (.map ma) (.map mb) J wr ⟨6,0,0,⟨#[]⟩,a1,ks.length,c1,a2,l.length,c2⟩ rb/\Hid ((ma.take i).all (Z5b mb)=true))
    case atStart=>exact⟨0,rfl,Nat.zero_le _,rfl,TT.out,Hd rfl⟩
    case round=>
     clear pa0 pa4 pa5 pb0;obtain⟨i,rfl,hil,hg,T,hall⟩:=hrel;have hlk:ks.length=ma.length:=by rw[HA.out.1];simp
     by_cases hlt:i<ks.length
     ·obtain⟨⟨key,ut⟩,hp⟩:∃p,ma[i]?=some p:=gx om;have hkey:ks[i]?=some key:=by rw[HA.out.1,getElem?_map,hp];rfl
      have hut:l[i]?=some ut:=by rw[HA.out.2.1,getElem?_map,hp];rfl
      obtain⟨ve,hv⟩:∃v,vs[i]?=some v:=gx (by rw[HA.out.2.2.2.1.length];exact(List.getElem?_eq_some_iff.1 hut).1);have hli:i<l.length:=(List.getElem?_eq_some_iff.1 hut).1;obtain⟨b1',o1,rfl,hs1⟩:∃b o,a1=some ⟨b,o,none⟩/\J.cell ⟨b,o+i,none⟩ (.string key):=by
       rcases HA.out.2.2.1 with⟨_,e⟩|⟨b,o,e,h⟩
       ·rw[e]at hkey;simp at hkey
       ·exact⟨b,o,e,h i key hkey⟩
      obtain⟨b2',o2,rfl,hs2⟩:∃b o,a2=some ⟨b,o,none⟩/\Six J b (o+i*6) ve:=by
       rcases HA.out.2.2.2.2 with⟨_,e⟩|⟨b,o,e,h⟩
       ·rw[e]at hv;simp at hv
       ·exact⟨b,o,e,h i ve hv⟩
      have dk:=hs1.at T.step.inw;have hV:=HA.out.2.2.2.1.get hv hut;have t2:=T.b;have HX:=Hd (nd4 hp hg hV hlk);have TH:=Hd T;have S2:=Hd hs2;clear hkey hut hv hs1 hs2 hV hp hg hlk T;go_wp2_with (refine wpList_load_row rf 35 _ rf (w.heap.size+1) rf 35 _ _ _ t2 underlying35 rfl sz35 ?_)
      refine(X5p TH.out.vb okB key _ TH.out.step.inw).mono ?_;rintro e w2 ⟨v',rfl,st2,hv'⟩;have T2:=Hd (TH.out.later st2);have V2:=Hd hv';have q1:=heap_alloc_new w2 (.cells L0c.toArray 35);have q2:=setRow_heap _ w2.heap.size _ (L0a v').toArray 35 (0,0) q1;have hJn:J w2.heap.size=none:=(TH.out.later st2).step.inw.none (Nat.le_refl _);have st3:Step Nix J J w2 _:=((Step.refl st2.inw).alloc (.cells L0c.toArray 35)).setRow hJn (fun hb=>absurd hb om) (L0a v').toArray;have T3:=Hd (T2.out.later st3);clear st2 hv' st3 t2 dk;unfold V6.agg;cases hf:findK mb key with
      |none=>
       have e1:Q5p (.map mb) key=none:=hf;have HF:=Hd hf;clear hf;simp only[e1,Option.isSome_none];go_wp2_with (refine wpList_store_row rf 35 _ _ rf w2.heap.size (L0a v').toArray rf rf 35 _ q1 sz35 rfl (one6 rfl rfl rfl rfl rfl rfl) ?_)
       go_quiet (fail);go_wp2_with fail
       go_roundg (ks.length -(i+1))
       case measure=>have:=HX.out.2.1;omega
       case rel=>
        refine⟨i+1,rfl,by omega,rfl,T3.out.drewN _,Hd ?_⟩;rw[Z8y _ HX.out.1,hall.out];simp[Z5b,HF.out]
      |some uu=>
       have e1:Q5p (.map mb) key=some uu:=hf;have HF:=Hd hf;clear hf;simp only[e1,Option.isSome_some];go_wp2_with (refine wpList_store_row rf 35 _ _ rf w2.heap.size (L0a v').toArray rf rf 35 _ q1 sz35 rfl (one6 rfl rfl rfl rfl rfl rfl) ?_)
       have la:=Q1r T3.out.a;have lq:=Q1r q2;have hbx:ut.iv.bulk<N:=by
        have h1:=Q4i (mem_of_getElem? HX.out.1);rw[Q3s];simp only[Tr.bulk]at hAb h1;omega
       have hby:uu.iv.bulk<2 ^ 32:=by
        have h1:=Q4i (Q0o HF.out);rw[Q3s];simp only[Tr.bulk]at hBb h1;omega
       have okU:ut.ok:=okA.field (p:=(key,ut)) (mem_of_getElem? HX.out.1);have okV:uu.ok:=okB.field (p:=(key,uu)) (Q0o HF.out);have vV:VIs J v' uu.iv:=by have:=V2.out;rw[e1]at this;exact this
       generalize (w2.alloc (.cells L0c.toArray 35)).setRow w2.heap.size (L0a v').toArray=W3 at*;have f1:=Q0h T3.out.a;obtain⟨⟨_,_,_,_,_,pa5⟩,_⟩:=f1;have f2:=S2.out.at T3.out.step.inw;obtain⟨d0,d1,d2,d3,d4,d5⟩:=f2;have f3:=Q0h q2;obtain⟨⟨r0,r1,r2,r3,r4,r5⟩,_⟩:=f3;have VV:=Hd (nd3 vV hbx hby);have Q2:=Hd q2;clear q1 q2 hbx hby vV V2;go_region_held3 (fun W=>W.cell? ⟨w.heap.size,5,none⟩=some (.slice (some ⟨b2',o2,none⟩) l.length c2)/\W.cell? ⟨b2',o2+i*6,none⟩=some (.int .i64 ve.k)/\W.cell? ⟨b2',o2+i*6+1,none⟩=some (.int .i64 ve.n)/\W.cell? ⟨b2',o2+i*6+2,none⟩=some (.float .f64 ve.f)/\W.cell? ⟨b2',o2+i*6+3,none⟩=some (.string ve.s)/\W.cell? ⟨b2',o2+i*6+4,none⟩=some (.slice ve.a1 ve.n1 ve.c1)/\W.cell? ⟨b2',o2+i*6+5,none⟩=some (.slice ve.a2 ve.n2 ve.c2)/\W.cell? ⟨w2.heap.size,0,none⟩=some (.int .i64 v'.k)/\W.cell? ⟨w2.heap.size,1,none⟩=some (.int .i64 v'.n)/\W.cell? ⟨w2.heap.size,2,none⟩=some (.float .f64 v'.f)/\W.cell? ⟨w2.heap.size,3,none⟩=some (.string v'.s)/\W.cell? ⟨w2.heap.size,4,none⟩=some (.slice v'.a1 v'.n1 v'.c1)/\W.cell? ⟨w2.heap.size,5,none⟩=some (.slice v'.a2 v'.n2 v'.c2)) (go_keep) (first
        |(go_at_call 74;refine(HC J ve ut.iv v' uu.iv _ VV.out.2.1 VV.out.2.2 ?_ HX.out.2.2.1 VV.out.1).mono ?_;(exact T3.out.step.inw);rintro e w4 ⟨rfl,st4⟩;have T4:=Hd (T3.out.drew.later st4);have f1:=Q0h T4.out.a;obtain⟨⟨_,_,_,_,_,qa5⟩,_⟩:=f1;have f2:=S2.out.at T4.out.step.inw;obtain⟨h0,h1,h2,h3,h4,h5⟩:=f2;have f3:=Q0h (st4.heap Q2.out (fun x=>x));obtain⟨⟨s0,s1,s2,s3,s4,s5⟩,_⟩:=f3;clear st4;(rw[Q9k okU,Q9k okV])))
       clear qa5 h0 h1 h2 h3 h4 h5 s0 s1 s2 s3 s4 s5 pa5 d0 d1 d2 d3 d4 d5 r0 r1 r2 r3 r4 r5;cases hr:Q2d ut uu with
       |true=>
        go_wp2_with fail
        go_roundg (ks.length -(i+1))
        case measure=>have:=HX.out.2.1;omega
        case rel=>
         refine⟨i+1,rfl,by omega,rfl,T4.out,Hd ?_⟩;rw[Z8y _ HX.out.1,hall.out];simp[Z5b,HF.out,hr]
       |false=>
        go_wp2_with fail
        go_ret;refine⟨?_,T4.out.step.forget⟩;have:Q7l ma mb=false:=by
         rw[Z2t];cases hA:ma.all (Z5b mb)with
         |false=>rfl
         |true=>
          have:=List.all_eq_true.1 hA (key,ut) (mem_of_getElem? HX.out.1);simp[Z5b,HF.out,hr]at this
        show Ending.returned _=Ending.returned (.bool (Q7l ma mb));rw[this];rfl
     ·obtain rfl:i=ks.length:=by omega
      have TH:=Hd T;have HL:=Hd hlk;clear hg T hlk;go_wp2_with fail
      go_ret;refine⟨?_,TH.out.step.forget⟩;have h1:=hall.out;rw[HL.out,take_length]at h1;show Ending.returned _=Ending.returned (.bool (Q7l ma mb));rw[Z2t,h1];rfl
theorem X0r:∀N,N<=2 ^ 32->AlikeH N
 |0,_=>fun J v x u y w hx _ _ _ _=>absurd hx (Nat.not_lt_zero _)
 |N+1,hN=>fun J v x u y w hx hy hi hv hu=>alike_t N (X0r N om) J v x u y w hi hv hu om hy om
theorem alike_x{v:V6}{x:IV}{u:V6}{y:IV}(hv:VIs I v x)(hu:VIs I u y)(hx:x.bulk<2 ^ 32)(hy:y.bulk<2 ^ 32)(w:World)(hi:I.In w):Calls prog 74 #[v.agg,u.agg] w (Got Nix I w (.bool (Q2d x.tr y.tr))):=
 X0r (2 ^ 32) (Nat.le_refl _) I v x u y w hx hy hi hv hu
end
section
variable{w:World}
theorem Q7z{P:Program}{ops:Array Oper}{rest:List Oper}{o:Oper}{a:Act}{Q:EAW}(hgd:o.guard=none)(ty:TypeId)(x:Operand)(ho:o.op=.load ty x)
  (b off:Nat)(hx:a.eval x=.pointer (some ⟨b,off,none⟩))(cs:Array Value)(d:TypeDesc)(hu:P.underlying ty=some d)(hd:(match d with|.struct _|.array _ _=>true|_=>false)=true)(hi:(P.info? ty).map (·.size)=some cs.size)
  (h:∀(j:Nat) v,cs.toList[j]?=some v->w.cell? ⟨b,off+j,none⟩=some v)
  (hK:wpList P ops Q rest (a.put o.dst (.agg cs)) w):wpList P ops Q (o::rest) a w:=by
 refine wpList_plain hgd fun _ hQ=>?_;have h1:(loadCells ⟨b,off,none⟩ cs.size).run P w=.ok cs w:=by
  have:=run_loadCells_list (P:=P) (w:=w) ⟨b,off,none⟩ cs.toList (fun j v hv=>by
   have ha:(Addr.add ⟨b,off,none⟩ j)=⟨b,off+j,none⟩:=by unfold Addr.add;split<;>simp_all
   rw[ha];exact h j v hv)
  simpa using this
 have h2:(loadVar ty ⟨b,off,none⟩).run P w=.ok (.agg cs) w:=by
  cases hq:P.info? ty with
  |none=>rw[hq]at hi;cases hi
  |some i=>
   have hs:i.size=cs.size:=by rw[hq]at hi;simpa using hi
   cases d<;>first|(cases hd;done)|simp[loadVar,isAgg,run_underlying hu,sizeOf,typeInfo,hq,hs,h1]
 exact e1q
theorem Z4m(t:Tr)(k:PE)(r:List PE):atT t (k::r)=(Q5p t k).bind fun u=>atT u r:=by
 by_cases h:t.isMap=true
 ·obtain⟨m,rfl⟩:=Q2q h;exact Q9f m k r
 ·rw[Z2j b0b];cases t<;>first|rfl|(simp[Tr.isMap]at h)
theorem Z3p:∀(t:Tr) (q r:List PE),atT t (q++r)=(atT t q).bind fun u=>atT u r
 |t,[],r=>by rw[Q7g];rfl
 |t,k::q,r=>by
  rw[List.cons_append,Z4m,Z4m];cases Q5p t k with
  |none=>rfl
  |some u=>exact Z3p u q r
variable{k:PE}{t u:Tr}
theorem ok_fieldT(h:t.ok)(hf:Q5p t k=some u):u.ok:=by
 cases t with
 |map m=>exact h.field (Q0o hf)
 |_=>cases hf
def Z3d(s:PE):Array Value:=#[.int .i64 0,.string s,sn,sn,.int .i64 0,.int .i64 0,.float .f64 0,.string ⟨#[]⟩,sn,sn,.int .i64 0]
structure At(I:Gh)(w:World)(t:Tr)(p:List PE)(i:Nat)(J:Gh)(W:World)(r:V6)(u:Tr):Prop where
 step:Step Nix I J w W
 cur:W.heap[w.heap.size]?=some (.cells (L0a r).toArray 35 (0,0))
 res:W.heap[w.heap.size+1]?=some (.cells L0c.toArray 35 (0,0))
 val:VIs J r u.iv
 ok:u.ok
 at_:atT t (p.take i)=some u
 n0:J w.heap.size=none
 n1:J (w.heap.size+1)=none
variable{r:V6}{J:Gh}{i:Nat}{p:List PE}
theorem At.later{W':World}(h:At I w t p i J W r u)(st:Step Nix J J W W'):At I w t p i J W' r u:=
 ⟨h.step.trans0 st,st.heap h.cur (fun x=>x),st.heap h.res (fun x=>x),h.val,h.ok,h.at_,h.n0,h.n1⟩
theorem At.next(h:At I w t p i J W r u)(hk:p[i]?=some k){r':V6}{u':Tr}(hf:Q5p u k=some u')(hv:VIs J r' u'.iv):
  At I w t p (i+1) J (W.setRow w.heap.size (L0a r').toArray) r' u':=by
 refine⟨h.step.setRow h.n0 (fun hb=>absurd hb om) _,setRow_heap _ _ _ _ _ _ h.cur,(setRow_other _ _ _ _ om).trans h.res,hv,ok_fieldT h.ok hf,?_,h.n0,h.n1⟩;rw[List.take_add_one,hk];show atT t (p.take i++[k])=_;rw[Z3p,h.at_];show atT u [k]=_;rw[Z4m,hf];exact Q7g u'
theorem At.stop(h:At I w t p i J W r u)(hk:p[i]?=some k)(hf:Q5p u k=none):atT t p=none:=by
 have e:p=p.take i++k::p.drop (i+1):=by
  rw[<-Q1h hk,List.take_append_drop]
 rw[e,Z3p,h.at_];show atT u (k::_)=none;rw[Z4m,hf];rfl
theorem Z1r{v:V6}{x:IV}(hv:VIs I v x)(hx:x.bulk<2 ^ 32)(pv:Value)(p:List PE)(hp:Q2l I pv p)(hm:p.length<=2 ^ 32)(hz:∀k∈p,ByteArray.size k<=maxLen)(w:World)(hi:I.In w):
  Calls prog 34 #[v.agg,pv] w fun e w'=>∃(r:V6) (J:Gh),e=.returned (.tuple #[r.agg,.bool (atT x.tr p).isSome])/\Step Nix I J w w'/\VIs J r ((atT x.tr p).getD .null).iv:=by
 obtain⟨pa,pc,rfl,hpc,hpc2,hflat⟩:=hp;unfold V6.agg;go_enter func34,ntmps34;have q0:=Q1b (w:=w) (o:=.cells (L0a v).toArray 35) rfl;have q0':=(Q0m (o:=.cells L0c.toArray 35) (Q1r q0)).trans q0;have q1:=Q1b (w:=w.alloc (.cells (L0a v).toArray 35)) (o:=.cells L0c.toArray 35) (n:=w.heap.size+1) b0f;have st0:Step Nix I I w _:=(((Step.refl hi).alloc (.cells (L0a v).toArray 35)).alloc (.cells L0c.toArray 35))
 have HP:=Hd (nd4 hflat hz hpc hpc2);have Q:=Hd (nd3 q0' q1 st0);clear q0 q1 st0 hflat hz hpc hpc2;go_wp2_with (refine wpList_load_row rf 35 _ rf (w.heap.size) rf 35 _ _ _ q0' underlying35 rfl sz35 ?_)
 refine(Q7j hv hx _ Q.out.2.2.inw).mono ?_;rintro e w1 ⟨r0,J,rfl,st1,hr0⟩;have c0:=st1.heap Q.out.1 (fun x=>x);have c1:=st1.heap Q.out.2.1 (fun x=>x);have n0:J w.heap.size=none:=(st1.old _ (Q1r Q.out.1) (fun x=>x)).trans (hi.none (Nat.le_refl _));have n1:J (w.heap.size+1)=none:=(st1.old _ (Q1r Q.out.2.1) (fun x=>x)).trans (hi.none om);have A0:At I w x.tr p 0 J (w1.setRow w.heap.size (L0a r0).toArray) r0 x.tr:=
  ⟨(Q.out.2.2.trans0 st1).setRow n0 (fun hb=>absurd hb om) _,setRow_heap _ _ _ _ _ _ c0,(setRow_other _ _ _ _ om).trans c1,hr0,x.tr_ok,by rw[List.take_zero,Q7g],n0,n1⟩
 have AH:=Hd A0;have LE:=Hd (Q.out.2.2.trans0 st1).le;clear c1 n0 n1 A0 st1 hr0 q0';unfold V6.agg;go_wp2_with (refine wpList_store_row rf 35 _ _ rf (w.heap.size) (L0a r0).toArray rf rf 35 _ c0 sz35 rfl (one6 rfl rfl rfl rfl rfl rfl) ?_)
 go_loopg [13] p.length (fun g y wr=>∃(i:Nat) (r:V6) (u:Tr),y=.int .i64 (i:Nat)/\i<=p.length/\g=p.length -i/\At I w x.tr p i J wr r u)
 case atStart=>exact⟨0,r0,x.tr,rfl,Nat.zero_le _,rfl,AH.out⟩
 case round=>
  clear c0;obtain⟨i,r,u,rfl,hil,hg,A⟩:=hrel;by_cases hlt:i<p.length
  ·obtain⟨k,hk⟩:∃k,p[i]?=some k:=gx hlt;obtain⟨b,o,rfl,hc⟩:∃b o,pa=some ⟨b,o,none⟩/\∀(j:Nat) v,(Z3d k).toList[j]?=some v->wr.cell? ⟨b,o+i*11+j,none⟩=some v:=by
    rcases HP.out.1 with⟨_,e⟩|⟨b,o,e,h⟩
    ·have h0:p.length=0:=by
      have:=Z2a Q3n p;rw[e]at this;simp only[List.length_nil]at this;omega
     omega
    ·refine⟨b,o,e,fun j v hj=>?_⟩;have hj11:j<11:=(List.getElem?_eq_some_iff.1 hj).1;have:=h (i*11+j) v ((X6w Q3n hk hj11).trans hj);rw[show o+i*11+j=o+(i*11+j) by omega];exact this.at (A.step.inw.mono A.step.le)
   have hkz:=HP.out.2.1 k (mem_of_getElem? hk);have q3:=heap_alloc_new wr (.cells L1e.toArray 173);have q4:=setRow_heap _ wr.heap.size _ (Z3d k) 173 (0,0) q3;have hJ:J wr.heap.size=none:=A.step.inw.none (Nat.le_refl _);have s2:Step Nix J J wr _:=((Step.refl A.step.inw).alloc (.cells L1e.toArray 173)).setRow hJ (fun hb=>absurd hb om) (Z3d k);have A2:=A.later s2;have k1:((wr.alloc (.cells L1e.toArray 173)).setRow wr.heap.size (Z3d k)).cell? ⟨wr.heap.size,1,none⟩=some (.string k):=Q0e q4 1;have cu:=A2.cur;have AA:=Hd A2;have HX:=Hd (nd3 hk hg hkz);clear A s2 A2 hk hg hkz q4 hJ;go_wp2_with (first|refine Q7z rf 173 _ rf b (o+i*11) rf (Z3d k) _ underlying173 rfl sz173 hc ?_|refine wpList_store_row rf 173 _ _ rf wr.heap.size (Z3d k) rf rf 173 _ q3 sz173 rfl (one11 k) ?_|refine wpList_load_row rf 35 _ rf (w.heap.size) rf 35 _ _ _ cu underlying35 rfl sz35 ?_)
   refine(X5p AA.out.val AA.out.ok k _ AA.out.step.inw).mono ?_;rintro e w3 ⟨r',rfl,st3,hr'⟩;have A3:=AA.out.later st3;have cu3:=A3.cur;cases hf:Q5p u k with
   |none=>
    rw[hf]at hr';have hnone:=A3.stop HX.out.1 hf;have re:=A3.res;have re':=(setRow_other w3 w.heap.size (w.heap.size+1) (L0a r').toArray om).trans re;have cu4:=setRow_heap _ w.heap.size _ (L0a r').toArray 35 (0,0) cu3;have qR:=Hd (setRow_heap _ (w.heap.size+1) _ (L0a r').toArray 35 (0,0) re');have ST:=Hd (nd3 ((A3.step.setRow A3.n0 (fun hb=>absurd hb om) (L0a r').toArray).setRow A3.n1 (fun hb=>absurd hb om) (L0a r').toArray) hr' hnone);clear st3 hr' A3 re hnone cu k1 q3 hc;unfold V6.agg;simp only[Option.isSome_none];go_wp2_with (first|refine wpList_store_row rf 35 _ _ rf (w.heap.size) (L0a r').toArray rf rf 35 _ cu3 sz35 rfl (one6 rfl rfl rfl rfl rfl rfl) ?_|refine wpList_load_row rf 35 _ rf (w.heap.size) rf 35 _ _ _ cu4 underlying35 rfl sz35 ?_|refine wpList_store_row rf 35 _ _ rf (w.heap.size+1) (L0a r').toArray rf rf 35 _ re' sz35 rfl (one6 rfl rfl rfl rfl rfl rfl) ?_)
    refine bodyPost_ret (Q5u rfl _ _ _ _ _ _ _ rfl qR.out underlying35 rfl sz35) rfl ?_;exact⟨r',J,by rw[ST.out.2.2];rfl,ST.out.1,by rw[ST.out.2.2];exact ST.out.2.1⟩
   |some u'=>
    rw[hf]at hr';have AN:=Hd (A3.next HX.out.1 hf hr');clear st3 hr' A3 cu k1 q3 hc;unfold V6.agg;simp only[Option.isSome_some];go_wp2_with (refine wpList_store_row rf 35 _ _ rf (w.heap.size) (L0a r').toArray rf rf 35 _ cu3 sz35 rfl (one6 rfl rfl rfl rfl rfl rfl) ?_)
    go_roundg (p.length -(i+1))
    case measure=>have:=HX.out.2.1;omega
    case rel=>exact⟨i+1,r',u',rfl,by omega,rfl,AN.out⟩
  ·obtain rfl:i=p.length:=by omega
   have cu:=A.cur;have re:=A.res;have qR:=Hd (setRow_heap _ (w.heap.size+1) _ (L0a r).toArray 35 (0,0) re);have AA:=Hd A;clear A hg;go_wp2_with (first|refine wpList_load_row rf 35 _ rf (w.heap.size) rf 35 _ _ _ cu underlying35 rfl sz35 ?_|refine wpList_store_row rf 35 _ _ rf (w.heap.size+1) (L0a r).toArray rf rf 35 _ re sz35 rfl (one6 rfl rfl rfl rfl rfl rfl) ?_)
   refine bodyPost_ret (Q5u rfl _ _ _ _ _ _ _ rfl qR.out underlying35 rfl sz35) rfl ?_;have e:atT x.tr p=some u:=by have:=AA.out.at_;rwa [take_length]at this
   exact⟨r,J,by rw[e];rfl,AA.out.step.setRow AA.out.n1 (fun hb=>absurd hb om) _,by rw[e];exact AA.out.val⟩
end
end Go.Proofs.YtbmklgemmjgjfaaGreat
