/- Part 4: Imp, Row. -/
import Derived.IntWalk
import Derived.Below
import Derived.Laws.OwnMore
import Derived.Deep.AppendLies
import Derived.Deep.Draws
import Derived.Maps.AppendAt
import Derived.OwnWalk
import Derived.Test.YtbmklgemmjgjfaaGreatT03
namespace Go.Proofs.YtbmklgemmjgjfaaGreat
open Go.RowKit Go.Maps Tryz
set_option linter.unusedVariables false
set_option linter.unusedSimpArgs false
set_option maxRecDepth 100000
set_option maxHeartbeats 400000
variable{w:World}{a:OA}{I J:Gh}
section

@[go_sem] theorem run_store_float{P:Program}(a:Addr)(m:Mode)(k:FloatKind)(n:Nat):(store a (.float k n) m).run P w=stored P w a (.float k n) m:=run_store P w a _ m rfl
inductive IV where
 |mk(k n:Int)(f:Nat)(s:BA)(ks:List BA)(l:List IV)
def IV.k:IV->Int|.mk k _ _ _ _ _=>k
def IV.n:IV->Int|.mk _ n _ _ _ _=>n
def IV.f:IV->Nat|.mk _ _ f _ _ _=>f
def IV.s:IV->BA|.mk _ _ _ s _ _=>s
def IV.ks:IV->List BA|.mk _ _ _ _ ks _=>ks
def IV.l:IV->List IV|.mk _ _ _ _ _ l=>l
def IV.zero:IV:=.mk 0 0 0 ⟨#[]⟩ [] []
def Q4h(I:Gh)(a:OA)(ss:List BA):Prop:=
 (ss=[]/\ss=[])\/∃b o,a=some ⟨b,o,none⟩/\∀(i:Nat) s,ss[i]?=some s->I.cell ⟨b,o+i,none⟩ (.string s)
theorem Q4h.mono{ss:List BA}(h:Q4h I a ss)(l:I.le J):Q4h J a ss:=by
 rcases h with h|⟨b,o,h,k⟩
 ·exact .inl h
 ·exact .inr ⟨b,o,h,fun i s e=>(k i s e).mono l⟩
structure V6 where
 k:Int
 n:Int
 f:Nat
 s:BA
 a1:OA
 n1:Nat
 c1:Nat
 a2:OA
 n2:Nat
 c2:Nat
abbrev L0a(x0:V6):List Value:=[.int .i64 x0.k,.int .i64 x0.n,.float .f64 x0.f,.string x0.s,.slice x0.a1 x0.n1 x0.c1,.slice x0.a2 x0.n2 x0.c2]
abbrev L0b(x0:Nat)(x1:BA)(x2:V6)(x3:OA)(x4 x5:Nat):List Value:=[.slice (some ⟨x0,0,none⟩) 2 2,.bool true,.string x1,.string ⟨#[]⟩,sn,sn,.string ⟨#[]⟩,.int .i64 x2.k,.int .i64 x2.n,.float .f64 x2.f,.string x2.s,.slice x2.a1 x2.n1 x2.c1,.slice x2.a2 x2.n2 x2.c2,.slice x3 x4 x5,sn,sn,sn,.bool false,.bool false,sn,.string ⟨#[]⟩,.bool false]
abbrev L0d(x0 x1:Nat)(x2:BA)(x3:V6)(x4:OA)(x5 x6:Nat):List Value:=[.slice (some ⟨x0,0,none⟩) 2 x1,.bool true,.string x2,.string ⟨#[]⟩,sn,sn,.string ⟨#[]⟩,.int .i64 x3.k,.int .i64 x3.n,.float .f64 x3.f,.string x3.s,.slice x3.a1 x3.n1 x3.c1,.slice x3.a2 x3.n2 x3.c2,.slice x4 x5 x6,sn,sn,sn,.bool false,.bool false,sn,.string ⟨#[]⟩,.bool false]
abbrev L0j(x0:Nat)(x1:BA)(x2:V6):List Value:=[.slice (some ⟨x0,0,none⟩) 2 2,.bool true,.string x1,.string ⟨#[]⟩,sn,sn,.string ⟨#[]⟩,.int .i64 x2.k,.int .i64 x2.n,.float .f64 x2.f,.string x2.s,.slice x2.a1 x2.n1 x2.c1,.slice x2.a2 x2.n2 x2.c2,sn,sn,sn,sn,.bool false,.bool false,sn,.string ⟨#[]⟩,.bool false]
abbrev L0k(x0:OA)(x1 x2:Nat)(x3:Bool)(x4:V6)(x5:OA)(x6 x7:Nat):List Value:=[.bool true,.slice x0 x1 x2,.bool x3,.int .i64 x4.k,.int .i64 x4.n,.float .f64 x4.f,.string x4.s,.slice x4.a1 x4.n1 x4.c1,.slice x4.a2 x4.n2 x4.c2,.slice x5 x6 x7]
abbrev L0l(x0:BA)(x1:V6):List Value:=[.bool true,.bool false,.string x0,.string ⟨#[118,49]⟩,.int .i64 x1.k,.int .i64 x1.n,.float .f64 x1.f,.string x1.s,.slice x1.a1 x1.n1 x1.c1,.slice x1.a2 x1.n2 x1.c2]
abbrev L0n(x0:OA)(x1 x2:Nat)(x3:V6)(x4:OA)(x5 x6:Nat):List Value:=[.bool true,.slice x0 x1 x2,.bool true,.int .i64 x3.k,.int .i64 x3.n,.float .f64 x3.f,.string x3.s,.slice x3.a1 x3.n1 x3.c1,.slice x3.a2 x3.n2 x3.c2,.slice x4 x5 x6]
abbrev L0w(x0:Bool)(x1:OA)(x2 x3:Nat)(x4:Bool)(x5:V6)(x6:OA)(x7 x8:Nat):List Value:=[.bool x0,.slice x1 x2 x3,.bool x4,.int .i64 x5.k,.int .i64 x5.n,.float .f64 x5.f,.string x5.s,.slice x5.a1 x5.n1 x5.c1,.slice x5.a2 x5.n2 x5.c2,.slice x6 x7 x8]
abbrev L1l(x0 x1:BA)(x2:V6):List Value:=[.bool true,.bool false,.string x0,.string x1,.int .i64 x2.k,.int .i64 x2.n,.float .f64 x2.f,.string x2.s,.slice x2.a1 x2.n1 x2.c1,.slice x2.a2 x2.n2 x2.c2]
def V6.agg(v:V6):Value:=.agg #[.int .i64 v.k,.int .i64 v.n,.float .f64 v.f,.string v.s,.slice v.a1 v.n1 v.c1,.slice v.a2 v.n2 v.c2]
structure Six(I:Gh)(b o:Nat)(v:V6):Prop where
 c0:I.cell ⟨b,o,none⟩ (.int .i64 v.k)
 c1:I.cell ⟨b,o+1,none⟩ (.int .i64 v.n)
 c2:I.cell ⟨b,o+2,none⟩ (.float .f64 v.f)
 c3:I.cell ⟨b,o+3,none⟩ (.string v.s)
 c4:I.cell ⟨b,o+4,none⟩ (.slice v.a1 v.n1 v.c1)
 c5:I.cell ⟨b,o+5,none⟩ (.slice v.a2 v.n2 v.c2)
variable{v:V6}{b o:Nat}
theorem Six.mono(h:Six I b o v)(l:I.le J):Six J b o v:=
 ⟨h.c0.mono l,h.c1.mono l,h.c2.mono l,h.c3.mono l,h.c4.mono l,h.c5.mono l⟩
def Q6n(I:Gh)(a:OA)(vs:List V6):Prop:=
 (vs=[]/\vs=[])\/∃b o,a=some ⟨b,o,none⟩/\∀(i:Nat) v,vs[i]?=some v->Six I b (o+i*6) v
theorem Q6n.mono{vs:List V6}(h:Q6n I a vs)(l:I.le J):Q6n J a vs:=by
 rcases h with h|⟨b,o,h,k⟩
 ·exact .inl h
 ·exact .inr ⟨b,o,h,fun i s e=>(k i s e).mono l⟩
inductive VIs(I:Gh):V6->IV->Prop
 | mk (k n:Int) (f:Nat) (s:BA) (a1:OA) (c1:Nat) (ks:List BA) (a2:OA) (c2:Nat) (vs:List V6) (l:List IV)
   (hs:s.size<=maxLen) (hk:ks.length<=c1/\c1<=maxLen) (hks:∀x∈ks,ByteArray.size x<=maxLen) (h1:Q4h I a1 ks) (hl:vs.length=l.length) (hn:l.length<=c2/\c2<=maxLen) (h2:Q6n I a2 vs)
   (h:∀(i:Nat) v x,vs[i]?=some v->l[i]?=some x->VIs I v x):VIs I ⟨k,n,f,s,a1,ks.length,c1,a2,l.length,c2⟩ (.mk k n f s ks l)
theorem VIs.mono{x:IV}(h:VIs I v x)(l:I.le J):VIs J v x:=by
 induction h with
 |mk k n f s a1 c1 ks a2 c2 vs xs hs hk hks h1 hl hn h2 _ ih=>exact .mk k n f s a1 c1 ks a2 c2 vs xs hs hk hks (h1.mono l) hl hn (h2.mono l) ih
theorem VIs.zero(I:Gh):VIs I ⟨0,0,0,⟨#[]⟩,none,0,0,none,0,0⟩ .zero:=
 .mk 0 0 0 ⟨#[]⟩ none 0 [] none 0 [] [] (Nat.zero_le _) ⟨Nat.zero_le _,Nat.zero_le _⟩ (fun _ h=>absurd h b0f) (.inl ⟨rfl,rfl⟩) rfl ⟨Nat.zero_le _,Nat.zero_le _⟩ (.inl ⟨rfl,rfl⟩) (fun i v x h=>absurd h b0f)

theorem Z2o{α:Type}{R:α->α->Prop}{l:List α}(h:l.Pairwise R){i j:Nat}{x y:α}(hij:i<j)(hx:l[i]?=some x)(hy:l[j]?=some y):R x y:=by
 obtain⟨h1,rfl⟩:=List.getElem?_eq_some_iff.1 hx;obtain⟨h2,rfl⟩:=List.getElem?_eq_some_iff.1 hy;exact List.pairwise_iff_getElem.1 h i j h1 h2 hij
theorem Q0h{v0 v1 v2 v3 v4 v5:Value}{t:TypeId}(h:w.heap[b]?=some (.cells #[v0,v1,v2,v3,v4,v5] t (0,0))):
  (w.cell? ⟨b,0,none⟩=some v0/\w.cell? ⟨b,1,none⟩=some v1/\w.cell? ⟨b,2,none⟩=some v2/\w.cell? ⟨b,3,none⟩=some v3/\w.cell? ⟨b,4,none⟩=some v4/\w.cell? ⟨b,5,none⟩=some v5)/\
  (w.frozen? ⟨b,0,none⟩=false/\w.frozen? ⟨b,1,none⟩=false/\w.frozen? ⟨b,2,none⟩=false/\w.frozen? ⟨b,3,none⟩=false/\w.frozen? ⟨b,4,none⟩=false/\w.frozen? ⟨b,5,none⟩=false):=
 ⟨⟨Q0e h 0,Q0e h 1,Q0e h 2,Q0e h 3,Q0e h 4,Q0e h 5⟩,Q4d h 0,Q4d h 1,Q4d h 2,Q4d h 3,Q4d h 4,Q4d h 5⟩
theorem Six.at(h:Six I b o v)(hi:I.In w):
  w.cell? ⟨b,o,none⟩=some (.int .i64 v.k)/\w.cell? ⟨b,o+1,none⟩=some (.int .i64 v.n)/\w.cell? ⟨b,o+2,none⟩=some (.float .f64 v.f)/\w.cell? ⟨b,o+3,none⟩=some (.string v.s)/\
  w.cell? ⟨b,o+4,none⟩=some (.slice v.a1 v.n1 v.c1)/\w.cell? ⟨b,o+5,none⟩=some (.slice v.a2 v.n2 v.c2):=
 ⟨h.c0.at hi,h.c1.at hi,h.c2.at hi,h.c3.at hi,h.c4.at hi,h.c5.at hi⟩
end
section
theorem X0t(a:Addr)(n:Nat):(a.add n).block=a.block:=by unfold Addr.add;split<;>rfl
theorem add_of_add(a:Addr)(i j:Nat):(a.add i).add j=a.add (i+j):=by
 unfold Addr.add;by_cases hi:i=0<;>by_cases hj:j=0<;>simp[hi,hj,Nat.add_assoc]

def Q4n(w:World)(B size:Nat)(A:OA)(n:Nat)(xs:List Value):Prop:=
 xs.length=n*size/\(0<n->∃ad,A=some ad/\ad.block<B/\∀j u,xs[j]?=some u->w.cell? (ad.add j)=some u)

section
variable{w w':World}{B B' size n:Nat}{A:OA}{xs:List Value}
theorem Q4n.drewN(h:Q4n w B size A n xs)(k:Nat):Q4n (w.drewN k) B size A n xs:=h
theorem Q4n.cut(h:Q4n w B size A n xs){k cap:Nat}(hk:k<=n)(hc:n<=cap):
  Q4n w B size (if cap=k then A else A.map (·.add (k*size))) (n -k) (xs.drop (k*size)):=by
 refine⟨by rw[List.length_drop,h.1,Nat.sub_mul],fun hn=>?_⟩;obtain⟨ad,rfl,hb,hcell⟩:=h.2 om;rw[if_neg om];refine⟨ad.add (k*size),rfl,by rw[X0t];exact hb,fun j u hu=>?_⟩;rw[add_of_add];exact hcell _ u (by rw[<-hu,List.getElem?_drop])
theorem Q4n.of_own{base:Nat}{e:TypeId}{c:Nat}(h:w.ownsRow base e size (.slice A n c) n xs):Q4n w w.heap.size size A n xs:=by
 refine⟨h.1,fun hn=>?_⟩;obtain⟨g,cap,hv,_,hlt⟩:=h.form hn;have hA:A=some ⟨g,0,none⟩:=by injection hv
 subst hA;exact⟨_,rfl,hlt,h.cells (g:=g) rfl⟩
end

section
variable{P:Program}(w:World)

theorem Q7w(base:Nat)(t ty e:TypeId)(i:TypeInfo)(size:Nat)(ht:P.underlying t=some (.slice e))(hi:P.info? e=some i)
  (v:Value)(n:Nat)(xs:List Value)(hown:w.ownsRow base e size v n xs)(c:Nat):(Builtin.append_ #[t,t] ty #[v,.slice none 0 c]).run P w=.ok v w:=by
 rcases hown.2 with⟨rfl,rfl⟩|⟨g,cap,cur,rfl,_,_,hnc,_⟩
 ·simp[Builtin.append_,run_underlying ht,sizeOf,typeInfo,hi,Builtin.lenOf,Builtin.firstCells]
 ·simp[Builtin.append_,run_underlying ht,sizeOf,typeInfo,hi,Builtin.lenOf,Builtin.firstCells,hnc,storeCells]

theorem Q7h(base:Nat)(t ty e:TypeId)(i:TypeInfo)(z:Value)(size bytes:Nat)(ht:P.underlying t=some (.slice e))(hi:P.info? e=some i)(hz:i.zero=some z)
  (hsize:i.size=size)(hby:i.bytes=bytes)(hzs:z.cells.size=size)(hsz:0<size)
  (v:Value)(n:Nat)(xs:List Value)(hown:w.ownsRow base e size v n xs)
  (B:Nat)(A:OA)(m c:Nat)(news:List Value)(hr:Q4n w B size A m news)(h1:∀u∈news,u.oneCell'=true)
  (h63:n+m<=maxLen)(hbytes:(n+m)*bytes<=140737488355328)(hbase:base<=w.heap.size):
  ∃v' w',(Builtin.append_ #[t,t] ty #[v,.slice A m c]).run P w=.ok v' w'/\w'.ownsRow base e size v' (n+m) (xs++news)/\w.grownBy w' v.ownBlock/\
   (v'.ownBlock=v.ownBlock\/v'.ownBlock=some w.heap.size):=by
 rcases A with _|ad
 ·have hm:m=0:=by
   rcases Nat.eq_zero_or_pos m with h0|h0
   ·exact h0
   ·obtain⟨ad,h,_⟩:=hr.2 h0;cases h
  subst hm;have hn:news=[]:=List.eq_nil_of_length_eq_zero (by simpa using hr.1);subst hn;exact⟨v,w,Q7w w base t ty e i size ht hi v n xs hown c,by simpa using hown,World.grownBy.refl w _,.inl rfl⟩
 ·have hcells:∀j u,news[j]?=some u->w.cell? (ad.add j)=some u:=by
   intro j u hu;rcases Nat.eq_zero_or_pos m with h0|h0
   ·subst h0;have hn:news=[]:=List.eq_nil_of_length_eq_zero (by simpa using hr.1);subst hn;simp at hu
   ·obtain⟨ad',h,_,hc⟩:=hr.2 h0;injection h with h;subst h;exact hc j u hu
  obtain⟨v',w',hrun,h2,h3,_,h5⟩:=run_append_own_at (P:=P) w base t ty e i z size bytes ht hi hz hsize hby hzs hsz v n xs hown ad m c news hr.1 hcells h1 h63 hbytes hbase;exact⟨v',w',hrun,h2,h3,h5⟩

theorem Q8h{o:Oper}{a:Act}{K:AW}{Q:EAW}(s x:Operand)(t:TypeId)
  (ho:o.op=.call {callee:=.builtin .append,args:=#[s,x],argTypes:=#[t,t]})
  (base:Nat)(e:TypeId)(i:TypeInfo)(z:Value)(size bytes:Nat)(ht:P.underlying t=some (.slice e))(hi:P.info? e=some i)(hz:i.zero=some z)
  (hsize:i.size=size)(hby:i.bytes=bytes)(hzs:z.cells.size=size)(hsz:0<size)
  (v:Value)(n:Nat)(xs:List Value)(hs:a.eval s=v)(hown:w.ownsRow base e size v n xs)
  (B:Nat)(A:OA)(m c:Nat)(news:List Value)(hx:a.eval x=.slice A m c)(hr:Q4n w B size A m news)(h1:∀u∈news,u.oneCell'=true)
  (h63:n+m<=maxLen)(hbytes:(n+m)*bytes<=140737488355328)(hbase:base<=w.heap.size)
  (h:∀v' w',w'.ownsRow base e size v' (n+m) (xs++news)->w.grownBy w' v.ownBlock->(v'.ownBlock=v.ownBlock\/v'.ownBlock=some w.heap.size)->K (a.put o.dst v') w'):o.wp P a w K Q:=by
 obtain⟨v',w',hrun,h2,h3,h4⟩:=Q7h (P:=P) w base t o.type e i z size bytes ht hi hz hsize hby hzs hsz v n xs hown B A m c news hr h1 h63 hbytes hbase;unfold Oper.wp execOp;simp only[ho,resolve,invoke,builtin,Sem.run_bind,Sem.run_pure,Result.andThen_ok,List.map_toArray,List.map_cons,List.map_nil,hs,hx,hrun];exact h v' w' h2 h3 h4

theorem Q5b{ops:Array Oper}{rest:List Oper}{o:Oper}{a:Act}{Q:EAW}(hgd:o.guard=none)(s x:Operand)(t:TypeId)
  (ho:o.op=.call {callee:=.builtin .append,args:=#[s,x],argTypes:=#[t,t]})
  (base:Nat)(e:TypeId)(i:TypeInfo)(z:Value)(size bytes:Nat)(ht:P.underlying t=some (.slice e))(hi:P.info? e=some i)(hz:i.zero=some z)
  (hsize:i.size=size)(hby:i.bytes=bytes)(hzs:z.cells.size=size)(hsz:0<size)
  (v:Value)(n:Nat)(xs:List Value)(hs:a.eval s=v)(hown:w.ownsRow base e size v n xs)
  (B:Nat)(A:OA)(m c:Nat)(news:List Value)(hx:a.eval x=.slice A m c)(hr:Q4n w B size A m news)(h1:∀u∈news,u.oneCell'=true)
  (h63:n+m<=maxLen)(hbytes:(n+m)*bytes<=140737488355328)(hbase:base<=w.heap.size)
  (h:∀v' w',w'.ownsRow base e size v' (n+m) (xs++news)->w.grownBy w' v.ownBlock->(v'.ownBlock=v.ownBlock\/v'.ownBlock=some w.heap.size)->wpList P ops Q rest (a.put o.dst v') w'):wpList P ops Q (o::rest) a w:=
 wpList_plain hgd fun _ hK=>Q8h w s x t ho base e i z size bytes ht hi hz hsize hby hzs hsz v n xs hs hown B A m c news hx hr h1 h63 hbytes hbase fun v' w' h2 h3 h4=>hK _ _ (h v' w' h2 h3 h4)

theorem Q4t{ops:Array Oper}{o:Oper}{a:Act}{K:AW}{Q:EAW}{E:Prop}(hgd:o.guard=none)(s x:Operand)(t:TypeId)
  (ho:o.op=.call {callee:=.builtin .append,args:=#[s,x],argTypes:=#[t,t]})
  (base:Nat)(e:TypeId)(i:TypeInfo)(z:Value)(size bytes:Nat)(ht:P.underlying t=some (.slice e))(hi:P.info? e=some i)(hz:i.zero=some z)
  (hsize:i.size=size)(hby:i.bytes=bytes)(hzs:z.cells.size=size)(hsz:0<size)
  (v:Value)(n:Nat)(xs:List Value)(hs:a.eval s=v)(hown:w.ownsRow base e size v n xs)
  (B:Nat)(A:OA)(m c:Nat)(news:List Value)(hx:a.eval x=.slice A m c)(hr:Q4n w B size A m news)(h1:∀u∈news,u.oneCell'=true)
  (h63:n+m<=maxLen)(hbytes:(n+m)*bytes<=140737488355328)(hbase:base<=w.heap.size)
  (h:∀v' w',w'.ownsRow base e size v' (n+m) (xs++news)->w.grownBy w' v.ownBlock->(v'.ownBlock=v.ownBlock\/v'.ownBlock=some w.heap.size)->K (a.put o.dst v') w'):
  if Region.wanted o (yielded ops a.tmps)=true then Oper.wp P o a w K Q else E:=by
 have hw:Region.wanted o (yielded ops a.tmps)=true:=by simp[Region.wanted,hgd]
 rw[if_pos hw];exact Q8h w s x t ho base e i z size bytes ht hi hz hsize hby hzs hsz v n xs hs hown B A m c news hx hr h1 h63 hbytes hbase h
end
def V6.cells(v:V6):List Value:=[.int .i64 v.k,.int .i64 v.n,.float .f64 v.f,.string v.s,.slice v.a1 v.n1 v.c1,.slice v.a2 v.n2 v.c2]
def Q4l(vs:List V6):List Value:=vs.flatMap V6.cells
theorem Q8e(v:V6)(vs:List V6):Q4l (v::vs)=v.cells++Q4l vs:=rfl
theorem Q5m(vs:List V6):(Q4l vs).length=vs.length*6:=by
 induction vs with
 |nil=>rfl
 |cons v vs ih=>rw[Q8e,List.length_append,ih,List.length_cons];simp[V6.cells];omega
theorem Q6w(a b:List V6):Q4l (a++b)=Q4l a++Q4l b:=by simp[Q4l]
variable{j base n:Nat}{vs:List V6}
theorem Z6q{i:Nat}{v:V6}(h:vs[i]?=some v)(hj:j<6):(Q4l vs)[i*6+j]?=v.cells[j]?:=by
 induction vs generalizing i with
 |nil=>simp at h
 |cons a vs ih=>
  rw[Q8e];cases i with
  |zero=>
   simp at h;subst h;rw[List.getElem?_append_left (by simp[V6.cells];omega)];simp
  |succ i=>
   simp at h;rw[List.getElem?_append_right (by simp[V6.cells];omega),<-ih h];congr 1;simp[V6.cells];omega
theorem X2j:∀u∈Q4l vs,u.oneCell'=true:=by
 intro u hu;obtain⟨v,_,h⟩:=List.mem_flatMap.1 hu;simp[V6.cells]at h;rcases h with rfl|rfl|rfl|rfl|rfl|rfl<;>rfl
variable{ss:List BA}
theorem X7r:∀u∈ss.map Value.string,u.oneCell'=true:=by
 intro u hu;obtain⟨s,_,rfl⟩:=List.mem_map.1 hu;rfl
theorem Q6n.reads(h:Q6n I a vs)(hi:I.In w):Q4n w w.heap.size 6 a vs.length (Q4l vs):=by
 refine⟨Q5m vs,fun hn=>?_⟩;rcases h with⟨_,rfl⟩|⟨b,o,rfl,k⟩
 ·simp at hn
 ·have h0:=k 0 _ (List.getElem?_eq_getElem hn);refine⟨_,rfl,h0.c0.lt hi,fun j u hu=>?_⟩;have hj:j<vs.length*6:=by have:=(List.getElem?_eq_some_iff.1 hu).1;rw[Q5m]at this;exact this
  have hv:vs[j / 6]?=some (vs[j / 6]'om):=List.getElem?_eq_getElem om;have hs:=(k _ _ hv).at hi;have hu2:(Q4l vs)[j / 6*6+j % 6]?=some u:=by rw[show j / 6*6+j % 6=j by omega];exact hu
  rw[Z6q hv (Nat.mod_lt _ om)]at hu2;have ha:(Addr.add ⟨b,o,none⟩ j)=⟨b,o+j / 6*6+j % 6,none⟩:=by
   rw[show o+j / 6*6+j % 6=o+j by omega];unfold Addr.add;split<;>simp_all
  rw[ha];have hm:j % 6<6:=Nat.mod_lt _ om;generalize j % 6=m at hu2 hm;match m,hm with
  |0,_=>simp[V6.cells]at hu2;subst hu2;exact hs.1
  |1,_=>simp[V6.cells]at hu2;subst hu2;exact hs.2.1
  |2,_=>simp[V6.cells]at hu2;subst hu2;exact hs.2.2.1
  |3,_=>simp[V6.cells]at hu2;subst hu2;exact hs.2.2.2.1
  |4,_=>simp[V6.cells]at hu2;subst hu2;exact hs.2.2.2.2.1
  |5,_=>simp[V6.cells]at hu2;subst hu2;exact hs.2.2.2.2.2
theorem Q4h.reads(h:Q4h I a ss)(hi:I.In w):Q4n w w.heap.size 1 a ss.length (ss.map Value.string):=by
 refine⟨by simp,fun hn=>?_⟩;rcases h with⟨_,rfl⟩|⟨b,o,rfl,k⟩
 ·simp at hn
 ·have h0:=k 0 _ (List.getElem?_eq_getElem hn);refine⟨_,rfl,h0.lt hi,fun j u hu=>?_⟩;rw[List.getElem?_map]at hu;cases hs:ss[j]? with
  |none=>rw[hs]at hu;cases hu
  |some s=>
   rw[hs]at hu;cases hu;have ha:(Addr.add ⟨b,o,none⟩ j)=⟨b,o+j,none⟩:=by unfold Addr.add;split<;>simp_all
   rw[ha];exact(k j s hs).at hi
theorem Z2e{cur:Array Value}{m:Nat}{xs:List Value}(ht:cur.toList.take m=xs){u:Value}(h:xs[j]?=some u):cur[j]?=some u:=by
 subst ht;rw[List.getElem?_take]at h;split at h
 ·simpa using h
 ·cases h
variable{v:Value}{e:TypeId}
theorem X4k(h:w.ownsRow base e 1 v n (ss.map Value.string))(hj:∀g,v.ownBlock=some g->J g=w.heap[g]?):
  ∃a c,v=.slice a ss.length c/\ss.length<=c/\c<=maxLen/\Q4h J a ss:=by
 obtain⟨hl,⟨rfl,rfl⟩|⟨g,cap,cur,rfl,_,hh,hn,hm,hc,ht⟩⟩:=h
 ·have:ss=[]:=List.length_eq_zero_iff.1 b2n;exact e1j
 ·have hnl:n=ss.length:=by simpa using hl.symm
  subst hnl;refine⟨_,cap,rfl,hn,hm,.inr ⟨g,0,rfl,fun i s hs=>⟨_,_,_,(hj g rfl).trans hh,rfl,?_⟩⟩⟩;rw[Nat.zero_add];exact Z2e ht (by rw[List.getElem?_map,hs];rfl)
theorem Z7f(h:w.ownsRow base e 6 v n (Q4l vs))(hj:∀g,v.ownBlock=some g->J g=w.heap[g]?):
  ∃a c,v=.slice a vs.length c/\vs.length<=c/\c<=maxLen/\Q6n J a vs:=by
 obtain⟨hl,⟨rfl,rfl⟩|⟨g,cap,cur,rfl,_,hh,hn,hm,hc,ht⟩⟩:=h
 ·have:vs=[]:=List.length_eq_zero_iff.1 (by rw[Q5m]at hl;omega);exact e1j
 ·have hnl:n=vs.length:=by rw[Q5m]at hl;omega
  subst hnl;have key:∀(i:Nat) v,vs[i]?=some v->∀(j:Nat) u,j<6->v.cells[j]?=some u->J.cell ⟨g,0+i*6+j,none⟩ u:=fun i v hv j u hj6 hu=>
   ⟨_,_,_,(hj g rfl).trans hh,rfl,by
    show cur[0+i*6+j]?=_;rw[Nat.zero_add];exact Z2e ht ((Z6q hv hj6).trans hu)⟩
  exact⟨_,cap,rfl,hn,hm,.inr ⟨g,0,rfl,fun i v hv=>⟨key i v hv 0 _ om rfl,key i v hv 1 _ om rfl,key i v hv 2 _ om rfl,key i v hv 3 _ om rfl,key i v hv 4 _ om rfl,key i v hv 5 _ om rfl⟩⟩⟩
end
end Go.Proofs.YtbmklgemmjgjfaaGreat
