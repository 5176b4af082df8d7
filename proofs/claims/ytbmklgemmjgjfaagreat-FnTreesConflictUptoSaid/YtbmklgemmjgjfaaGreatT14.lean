/- Part 14: Aut, Typ, Cpy, Fsi, Cel. -/
import Derived.Great.BuildSlice
import Derived.Laws.CopyRow
import Derived.Lib.AppendZerosOnto
import Derived.Test.YtbmklgemmjgjfaaGreatT13
namespace Go.Proofs.YtbmklgemmjgjfaaGreat
open List (append_assoc map_nil mem_cons mem_cons_of_mem mem_cons_self pairwise_cons)
open Go.RowKit Go.Maps Tryz
set_option linter.unusedVariables false
set_option linter.unusedSimpArgs false
set_option maxRecDepth 100000
set_option maxHeartbeats 400000
variable{W:World}{b:Nat}{P:Program}
section
inductive Bt where
 |t(t:TypeId)
 |m(e:KV)
instance (n:Nat):OfNat Bt n:=⟨.t n⟩
abbrev Blk:=Nat×List Value×Bt
def Z9g(W:World)(x:Blk):Prop:=match x.2.2 with
 |.t t=>W.heap[x.1]?=some (.cells x.2.1.toArray t (0,0))
 |.m e=>Q3z W x.1 e
variable{x:Blk}
theorem Z9g.keep{W':World}(h:Z9g W x)(e:W'.heap[x.1]?=W.heap[x.1]?):Z9g W' x:=by
 obtain⟨b,cs,k⟩:=x;cases k with
 |t t=>exact e.trans h
 |m m=>
  obtain⟨es,clock,h1,r⟩:=(show Q3z W b m from h)
  exact(show Q3z W' b m from⟨es,clock,e.trans h1,r⟩)
theorem Z9g.lt(h:Z9g W x):x.1<W.heap.size:=by
 obtain⟨b,cs,k⟩:=x;cases k with
 |t t=>exact Q1r h
 |m m=>
  obtain⟨es,clock,h1,r⟩:=(show Q3z W b m from h)
  exact Q1r h1
structure Rw where
 v:Value
 e:TypeId
 size:Nat
 n:Nat
 xs:List Value
inductive Has:List Blk->Nat->List Value->TypeId->Prop
 |head {b:Nat} {cs:List Value} {t:TypeId} {R:List Blk}:Has ((b,cs,.t t)::R) b cs t
 |tail {b:Nat} {cs:List Value} {t:TypeId} {x:Blk} {R:List Blk} (h:Has R b cs t):Has (x::R) b cs t
inductive Upd:List Blk->Nat->List Value->TypeId->List Value->List Blk->Prop
 |head {b:Nat} {cs new:List Value} {t:TypeId} {R:List Blk}:Upd ((b,cs,.t t)::R) b cs t new ((b,new,.t t)::R)
 |tail {b:Nat} {cs new:List Value} {t:TypeId} {x:Blk} {R R':List Blk} (h:Upd R b cs t new R'):Upd (x::R) b cs t new (x::R')
inductive RHas:List Rw->Rw->Prop
 |head {r:Rw} {R:List Rw}:RHas (r::R) r
 |tail {r x:Rw} {R:List Rw} (h:RHas R r):RHas (x::R) r
inductive RUpd:List Rw->Rw->Rw->List Rw->Prop
 |head {r r':Rw} {R:List Rw}:RUpd (r::R) r r' (r'::R)
 |tail {r r' x:Rw} {R R':List Rw} (h:RUpd R r r' R'):RUpd (x::R) r r' (x::R')
inductive Q1w:List Value->Nat->List Value->List Value->Prop
 |nil {l:List Value}:Q1w l 0 [] l
 |here {l vs l':List Value} {x v:Value} (h:Q1w l 0 vs l'):Q1w (x::l) 0 (v::vs) (v::l')
 |skip {l vs l':List Value} {x:Value} {n:Nat} (h:Q1w l n vs l'):Q1w (x::l) (n+1) vs (x::l')

variable{cs new l vs l':List Value}{j y:Nat}{L L':List Blk}
theorem Has.mem{t:TypeId}(h:Has L b cs t):(b,cs,.t t)∈L:=by
 induction h with
 |head=>exact mem_cons_self ..
 |tail _ ih=>exact mem_cons_of_mem _ ih
theorem Upd.has{t:TypeId}(h:Upd L b cs t new L'):Has L b cs t:=by
 induction h with
 |head=>exact .head
 |tail _ ih=>exact .tail ih
theorem z0a{P:Prop}(h:P:=by
 rcases ih (List.pairwise_cons.1 hp).2 x hx with e|⟨e1,e2⟩
 ·exact .inl e
 ·exact .inr ⟨List.mem_cons_of_mem _ e1,e2⟩):P:=h
theorem Upd.mem{t:TypeId}(h:Upd L b cs t new L')(hp:L.Pairwise fun x y=>x.1≠y.1):∀x∈L',x=(b,new,.t t)\/(x∈L/\x.1≠b):=by
 induction h with
 |head=>
  intro x hx;rcases mem_cons.1 hx with rfl|hx
  ·exact .inl rfl
  ·exact .inr ⟨mem_cons_of_mem _ hx,fun e=>(pairwise_cons.1 hp).1 x hx e.symm⟩
 |tail h ih=>
  intro x hx;rcases mem_cons.1 hx with rfl|hx
  ·exact .inr ⟨mem_cons_self ..,(pairwise_cons.1 hp).1 _ h.has.mem⟩
  ·exact z0a
theorem Upd.fst{t:TypeId}(h:Upd L b cs t new L'):∀x∈L',∃y∈L,y.1=x.1:=by
 induction h with
 |head=>
  intro x hx;rcases mem_cons.1 hx with rfl|hx
  ·exact⟨_,mem_cons_self ..,rfl⟩
  ·exact⟨x,mem_cons_of_mem _ hx,rfl⟩
 |tail _ ih=>
  intro x hx;rcases mem_cons.1 hx with rfl|hx
  ·exact⟨_,mem_cons_self ..,rfl⟩
  ·obtain⟨y,hy,e⟩:=ih x hx;exact⟨y,mem_cons_of_mem _ hy,e⟩
theorem Upd.pw{t:TypeId}(h:Upd L b cs t new L')(hp:L.Pairwise fun x y=>x.1≠y.1):L'.Pairwise fun x y=>x.1≠y.1:=by
 induction h with
 |head=>exact pairwise_cons.2 ⟨fun y hy=>(pairwise_cons.1 hp).1 y hy,(pairwise_cons.1 hp).2⟩
 |tail h ih=>
  refine pairwise_cons.2 ⟨fun y hy=>?_,ih (pairwise_cons.1 hp).2⟩;obtain⟨z,hz,e⟩:=h.fst y hy;rw[<-e];exact(pairwise_cons.1 hp).1 z hz
variable{r r':Rw}
theorem RHas.mem{L:List Rw}(h:RHas L r):r∈L:=by
 induction h with
 |head=>exact mem_cons_self ..
 |tail _ ih=>exact mem_cons_of_mem _ ih
theorem RUpd.has{L L':List Rw}(h:RUpd L r r' L'):RHas L r:=by
 induction h with
 |head=>exact .head
 |tail _ ih=>exact .tail ih
variable{Q:Rw->Rw->Prop}
theorem RUpd.pw{L L':List Rw}(h:RUpd L r r' L')(hs:∀x y,Q x y->Q y x)(hp:L.Pairwise Q)(hn:∀x∈L,Q r x->Q r' x):L'.Pairwise Q:=by
 induction h with
 |head=>exact pairwise_cons.2 ⟨fun y hy=>hn y (mem_cons_of_mem _ hy) ((pairwise_cons.1 hp).1 y hy),(pairwise_cons.1 hp).2⟩
 |@tail r r' x R R' h ih=>
  have h1:=(pairwise_cons.1 hp).1;refine pairwise_cons.2 ⟨fun y hy=>?_,ih (pairwise_cons.1 hp).2 fun z hz=>hn z (mem_cons_of_mem _ hz)⟩;have key:y=r'\/y∈R:=by
   clear ih hn hp h1;induction h with
   | head => rcases mem_cons.1 hy with e|e
             ·exact .inl e
             ·exact .inr (mem_cons_of_mem _ e)
   | tail _ ih => rcases mem_cons.1 hy with e|e
                  ·exact .inr (e▸mem_cons_self ..)
                  ·rcases ih e with e|e
                   ·exact .inl e
                   ·exact .inr (mem_cons_of_mem _ e)
  rcases key with rfl|hy
  ·exact hs _ _ (hn x (mem_cons_self ..) (hs _ _ (h1 r h.has.mem)))
  ·exact h1 y hy
theorem RUpd.mem{L L':List Rw}(h:RUpd L r r' L')(hp:L.Pairwise Q)(hs:∀x y,Q x y->Q y x):∀x∈L',x=r'\/(x∈L/\Q r x):=by
 induction h with
 |head=>
  intro x hx;rcases mem_cons.1 hx with e|hx
  ·exact .inl e
  ·exact .inr ⟨mem_cons_of_mem _ hx,(pairwise_cons.1 hp).1 x hx⟩
 |tail h ih=>
  intro x hx;rcases mem_cons.1 hx with rfl|hx
  ·exact .inr ⟨mem_cons_self ..,hs _ _ ((pairwise_cons.1 hp).1 _ h.has.mem)⟩
  ·exact z0a
inductive Sub:List Value->Nat->Nat->List Value->Prop
 |nil {l:List Value}:Sub l 0 0 []
 |here {l s:List Value} {x:Value} {n:Nat} (h:Sub l 0 n s):Sub (x::l) 0 (n+1) (x::s)
 |skip {l s:List Value} {x:Value} {j n:Nat} (h:Sub l j n s):Sub (x::l) (j+1) n s
inductive Lst:List Value->List Value->Prop
 |nil:Lst [] []
 |cons {x:Value} {l m:List Value} (h:Lst l m):Lst (x::l) (x::m)
theorem Sub.eq{s:List Value}{n:Nat}(h:Sub l j n s):(l.drop j).take n=s/\s.length=n:=by
 induction h with
 |nil=>exact⟨by simp,rfl⟩
 |here _ ih=>exact⟨by simpa using ih.1,by simpa using ih.2⟩
 |skip _ ih=>exact⟨by simpa using ih.1,ih.2⟩
theorem Lst.eq{m:List Value}(h:Lst l m):l=m:=by
 induction h with
 |nil=>rfl
 |cons _ ih=>rw[ih]
theorem Q1w.len(h:Q1w l j vs l'):l'.length=l.length/\j+vs.length<=l.length:=by
 induction h with
 |nil=>exact⟨rfl,Nat.zero_le _⟩
 |here _ ih=>simp only[List.length_cons];omega
 |skip _ ih=>simp only[List.length_cons];omega
theorem Q1w.eq(h:Q1w l j vs l'):l'=l.take j++vs++l.drop (j+vs.length):=by
 induction h with
 |nil=>simp
 |@here l vs l' x v _ ih=>
  have:0+(v::vs).length=(0+vs.length)+1:=by simp
  rw[this,List.drop_succ_cons,ih];simp
 |@skip l vs l' x n _ ih=>
  rw[show n+1+vs.length=(n+vs.length)+1 by omega,List.drop_succ_cons,ih];simp
structure St(M:Nat->Prop)(I J:Gh)(w W:World)(L:List Blk)(R:List Rw):Prop where
 step:Step M I J w W
 own:∀x∈L,Z9g W x/\J x.1=none/\(x.1<w.heap.size->M x.1)
 nodup:L.Pairwise fun x y=>x.1≠y.1
 rows:∀r∈R,W.ownsRow 0 r.e r.size r.v r.n r.xs/\∀g,r.v.ownBlock=some g->J g=none/\(g<w.heap.size->M g)/\∀x∈L,x.1≠g
 rdis:R.Pairwise fun r s=>∀g,r.v.ownBlock=some g->s.v.ownBlock≠some g

section
variable{M:Nat->Prop}{I J K:Gh}{w W W':World}{L L':List Blk}{R R':List Rw}{b:Nat}{cs new:List Value}{t:TypeId}
theorem St.start(h:I.In w):St M I I w w [] []:=⟨Step.refl h,fun x hx=>absurd hx b0f,.nil,fun x hx=>absurd hx b0f,.nil⟩
theorem St.inw(h:St M I J w W L R):J.In W:=h.step.inw
theorem St.heap(h:St M I J w W L R)(hh:Has L b cs t):W.heap[b]?=some (.cells cs.toArray t (0,0)):=(h.own _ hh.mem).1
theorem St.row(h:St M I J w W L R){r:Rw}(hh:RHas R r):W.ownsRow 0 r.e r.size r.v r.n r.xs:=(h.rows _ hh.mem).1
theorem St.cell(h:St M I J w W L R)(hh:Has L b cs t)(j:Nat):W.cell? ⟨b,j,Option.none⟩=cs[j]?:=by
 have:=Q0e (h.heap hh) j;simpa using this
theorem St.cellAt(h:St M I J w W L R)(hh:Has L b cs t)(j:Nat){v:Value}(hv:cs[j]?=some v):W.cell? ⟨b,j,Option.none⟩=some v:=(h.cell hh j).trans hv
theorem St.lt(h:St M I J w W L R){x:Blk}(hx:x∈L):x.1<W.heap.size:=(h.own x hx).1.lt
theorem St.rlt(h:St M I J w W L R){r:Rw}(hr:r∈R){g:Nat}(hg:r.v.ownBlock=some g):g<W.heap.size:=(Q2e (h.rows r hr).1 hg).2.1
theorem St.drew(h:St M I J w W L R):St M I J w W.drew L R:=⟨h.step.drew,fun x hx=>⟨(h.own x hx).1.keep rfl,(h.own x hx).2⟩,h.nodup,h.rows,h.rdis⟩
theorem St.alloc(h:St M I J w W L R)(b:Nat)(hb:b=W.heap.size)(cs:List Value)(t:TypeId):St M I J w (W.alloc (.cells cs.toArray t)) ((b,cs,.t t)::L) R:=by
 subst hb;refine⟨h.step.alloc _,fun x hx=>?_,pairwise_cons.2 ⟨fun y hy=>by have:=h.lt hy;simp only;omega,h.nodup⟩,fun r hr=>?_,h.rdis⟩
 ·rcases mem_cons.1 hx with rfl|hx
  ·exact⟨Q1b rfl,h.inw.none (Nat.le_refl _),fun hb=>absurd hb (by have:=h.step.size;simp only;omega)⟩
  ·exact⟨(h.own x hx).1.keep (Q0m (h.lt hx)),(h.own x hx).2⟩
 ·refine⟨Q1q (h.rows r hr).1 fun g hg=>Q0m (h.rlt hr hg),fun g hg=>⟨((h.rows r hr).2 g hg).1,((h.rows r hr).2 g hg).2.1,fun x hx=>?_⟩⟩;rcases mem_cons.1 hx with rfl|hx
  ·have:=h.rlt hr hg;simp only;omega
  ·exact((h.rows r hr).2 g hg).2.2 x hx
theorem St.allocO(h:St M I J w W L R)(o:Obj):St M I J w (W.alloc o) L R:=
 ⟨h.step.alloc _,fun x hx=>⟨(h.own x hx).1.keep (Q0m (h.lt hx)),(h.own x hx).2⟩,h.nodup,fun r hr=>⟨Q1q (h.rows r hr).1 fun g hg=>Q0m (h.rlt hr hg),(h.rows r hr).2⟩,h.rdis⟩
theorem St.set(h:St M I J w W L R)(u:Upd L b cs t new L'):St M I J w (W.setRow b new.toArray) L' R:=by
 have hb:=h.own _ u.has.mem;refine⟨h.step.setRow hb.2.1 hb.2.2 _,fun x hx=>?_,u.pw h.nodup,fun r hr=>⟨Q1q (h.rows r hr).1 fun g hg=>setRow_other _ _ _ _ (((h.rows r hr).2 g hg).2.2 _ u.has.mem).symm,fun g hg=>⟨((h.rows r hr).2 g hg).1,((h.rows r hr).2 g hg).2.1,fun x hx=>?_⟩⟩,h.rdis⟩
 ·rcases u.mem h.nodup x hx with rfl|⟨h1,h2⟩
  ·exact⟨setRow_heap _ _ _ _ _ _ hb.1,hb.2.1,hb.2.2⟩
  ·exact⟨(h.own x h1).1.keep (setRow_other _ _ _ _ h2),(h.own x h1).2⟩
 ·obtain⟨y,hy,e⟩:=u.fst x hx;rw[<-e];exact((h.rows r hr).2 g hg).2.2 y hy
theorem St.callM{N:Nat->Prop}(h:St M I J w W L R)(s:Step N J K W W')(hL:∀x∈L,¬N x.1)(hR:∀r∈R,∀g,r.v.ownBlock=some g->¬N g)(hN:∀g,g<w.heap.size->N g->M g):St M I K w W' L R:=by
 refine⟨h.step.trans s hN,fun x hx=>⟨(h.own x hx).1.keep (s.block _ (h.lt hx) (hL x hx)),(s.old _ (h.lt hx) (hL x hx)).trans (h.own x hx).2.1,(h.own x hx).2.2⟩,h.nodup,fun r hr=>⟨Q1q (h.rows r hr).1 fun g hg=>s.block g (h.rlt hr hg) (hR r hr g hg),fun g hg=>⟨?_,((h.rows r hr).2 g hg).2⟩⟩,h.rdis⟩;exact(s.old _ (h.rlt hr hg) (hR r hr g hg)).trans ((h.rows r hr).2 g hg).1
theorem St.call(h:St M I J w W L R)(s:Step Nix J K W W'):St M I K w W' L R:=h.callM s (fun _ _ x=>x) (fun _ _ _ _ x=>x) (fun _ _ x=>x.elim)
theorem St.pop{x:Blk}(h:St M I J w W (x::L) R):St M I J w W L R:=
 ⟨h.step,fun y hy=>h.own y (mem_cons_of_mem _ hy),(pairwise_cons.1 h.nodup).2,fun r hr=>⟨(h.rows r hr).1,fun g hg=>⟨((h.rows r hr).2 g hg).1,((h.rows r hr).2 g hg).2.1,fun y hy=>((h.rows r hr).2 g hg).2.2 y (mem_cons_of_mem _ hy)⟩⟩,h.rdis⟩
theorem St.rpop{r:Rw}(h:St M I J w W L (r::R)):St M I J w W L R:=
 ⟨h.step,h.own,h.nodup,fun r hr=>h.rows r (mem_cons_of_mem _ hr),(pairwise_cons.1 h.rdis).2⟩
theorem St.swap{x y:Blk}(h:St M I J w W (x::y::L) R):St M I J w W (y::x::L) R:=by
 have h1:=pairwise_cons.1 h.nodup;have h2:=pairwise_cons.1 h1.2;have mm:∀z,z∈y::x::L->z∈x::y::L:=fun z hz=>by
  rcases mem_cons.1 hz with e|hz
  ·exact mem_cons_of_mem _ (e▸mem_cons_self ..)
  ·rcases mem_cons.1 hz with e|hz
   ·exact e▸mem_cons_self ..
   ·exact mem_cons_of_mem _ (mem_cons_of_mem _ hz)
 refine⟨h.step,fun z hz=>h.own z (mm z hz),pairwise_cons.2 ⟨fun z hz=>?_,pairwise_cons.2 ⟨fun z hz=>h1.1 z (mem_cons_of_mem _ hz),h2.2⟩⟩,fun r hr=>⟨(h.rows r hr).1,fun g hg=>⟨((h.rows r hr).2 g hg).1,((h.rows r hr).2 g hg).2.1,fun z hz=>((h.rows r hr).2 g hg).2.2 z (mm z hz)⟩⟩,h.rdis⟩;rcases mem_cons.1 hz with e|hz
 ·rw[e];exact(h1.1 y (mem_cons_self ..)).symm
 ·exact h2.1 z hz
theorem St.pushX{x0:Blk}(h:St M I J w W L R)(hb:Z9g W x0)(hj:J x0.1=Option.none)(hm:x0.1<w.heap.size->M x0.1)(hL:∀x∈L,x.1≠x0.1)(hR:∀r∈R,r.v.ownBlock≠some x0.1):St M I J w W (x0::L) R:=by
 refine⟨h.step,fun x hx=>?_,pairwise_cons.2 ⟨fun y hy=>(hL y hy).symm,h.nodup⟩,fun r hr=>⟨(h.rows r hr).1,fun g hg=>⟨((h.rows r hr).2 g hg).1,((h.rows r hr).2 g hg).2.1,fun x hx=>?_⟩⟩,h.rdis⟩
 ·rcases mem_cons.1 hx with rfl|hx
  ·exact⟨hb,hj,hm⟩
  ·exact h.own x hx
 ·rcases mem_cons.1 hx with rfl|hx
  ·exact fun e=>hR r hr (by rw[e];exact hg)
  ·exact((h.rows r hr).2 g hg).2.2 x hx
theorem St.push(h:St M I J w W L R)(hb:W.heap[b]?=some (.cells cs.toArray t (0,0)))(hj:J b=Option.none)(hm:b<w.heap.size->M b)(hL:∀x∈L,x.1≠b)(hR:∀r∈R,r.v.ownBlock≠some b):St M I J w W ((b,cs,.t t)::L) R:=
 h.pushX (x0:=(b,cs,.t t)) hb hj hm hL hR
theorem St.freezeX{x0:Blk}(h:St M I J w W (x0::L) R):∃K,J.le K/\K x0.1=W.heap[x0.1]?/\St M I K w W L R:=by
 have hb:=h.own _ (mem_cons_self ..);have hp:=pairwise_cons.1 h.nodup;haveI:DecidablePred fun g:Nat=>g=x0.1:=fun g=>inferInstance;have other:∀g,g≠x0.1->(J.with (fun g=>g=x0.1) W) g=J g:=fun g hg=>by unfold Gh.with;rw[if_neg hg]
 refine⟨J.with (fun g=>g=x0.1) W,Gh.le_with fun g hg=>by rw[hg];exact hb.2.1,?_,?_⟩
 ·unfold Gh.with;rw[if_pos rfl]
 ·refine⟨h.step.freeze _ (fun g hg=>by rw[hg];exact hb.2.1) (fun g hg hlt=>by rw[hg]at hlt⊢;exact hb.2.2 hlt),fun x hx=>⟨(h.own x (mem_cons_of_mem _ hx)).1,(other _ (hp.1 x hx).symm).trans (h.own x (mem_cons_of_mem _ hx)).2.1,(h.own x (mem_cons_of_mem _ hx)).2.2⟩,hp.2,fun r hr=>⟨(h.rows r hr).1,fun g hg=>⟨(other _ (fun e=>((h.rows r hr).2 g hg).2.2 _ (mem_cons_self ..) e.symm)).trans ((h.rows r hr).2 g hg).1,((h.rows r hr).2 g hg).2.1,fun x hx=>((h.rows r hr).2 g hg).2.2 x (mem_cons_of_mem _ hx)⟩⟩,h.rdis⟩
theorem St.freeze(h:St M I J w W ((b,cs,.t t)::L) R):∃K,J.le K/\K b=some (.cells cs.toArray t (0,0))/\St M I K w W L R:=by
 obtain⟨K,h1,h2,h3⟩:=h.freezeX;exact⟨K,h1,h2.trans (h.own _ (mem_cons_self ..)).1,h3⟩
theorem St.freezeM{e:KV}(h:St M I J w W ((b,cs,.m e)::L) R):∃K,J.le K/\K.map b e/\St M I K w W L R:=by
 obtain⟨K,h1,h2,h3⟩:=h.freezeX;obtain⟨o,ho,hm⟩:=Q3z.obj (show Q3z W b e from(h.own _ (mem_cons_self ..)).1);exact⟨K,h1,⟨o,h2.trans ho,hm⟩,h3⟩
theorem St.rfreeze{r:Rw}(h:St M I J w W L (r::R)):∃(K:Gh) (a:OA) (c:Nat),J.le K/\r.v=.slice a r.n c/\r.n<=c/\c<=maxLen/\Q0u K a r.xs/\St M I K w W L R:=by
 have hr0:=h.rows r (mem_cons_self ..);have hp:=pairwise_cons.1 h.rdis;haveI:DecidablePred fun g:Nat=>r.v.ownBlock=some g:=fun g=>inferInstance;have other:∀g,r.v.ownBlock≠some g->(J.with (fun g=>r.v.ownBlock=some g) W) g=J g:=fun g hg=>by unfold Gh.with;rw[if_neg hg]
 obtain⟨a,c,e,h1,h2,h3⟩:=X4n (J:=J.with (fun g=>r.v.ownBlock=some g) W) hr0.1 (fun g hg=>by unfold Gh.with;rw[if_pos hg]);refine⟨_,a,c,Gh.le_with fun g hg=>(hr0.2 g hg).1,e,h1,h2,h3,?_⟩;exact⟨h.step.freeze _ (fun g hg=>(hr0.2 g hg).1) (fun g hg hlt=>(hr0.2 g hg).2.1 hlt),fun x hx=>⟨(h.own x hx).1,(other _ (fun e=>(hr0.2 _ e).2.2 x hx rfl)).trans (h.own x hx).2.1,(h.own x hx).2.2⟩,h.nodup,fun s hs=>⟨(h.rows s (mem_cons_of_mem _ hs)).1,fun g hg=>⟨(other g (fun e=>hp.1 s hs g e hg)).trans ((h.rows s (mem_cons_of_mem _ hs)).2 g hg).1,((h.rows s (mem_cons_of_mem _ hs)).2 g hg).2⟩⟩,hp.2⟩
theorem St.nilrow(h:St M I J w W L R)(e:TypeId)(size:Nat):St M I J w W L (⟨.slice Option.none 0 0,e,size,0,[]⟩::R):=
 ⟨h.step,h.own,h.nodup,fun r hr=>by
  rcases mem_cons.1 hr with rfl|hr
  ·exact⟨⟨by simp,.inl ⟨rfl,rfl⟩⟩,fun g hg=>by cases hg⟩
  ·exact h.rows r hr,pairwise_cons.2 ⟨fun s _ g hg=>(by cases hg),h.rdis⟩⟩
theorem St.asrow(h:St M I J w W ((b,cs,.t t)::L) R)(n size:Nat)(hn:cs.length=n*size)(hm:n<=maxLen):St M I J w W L (⟨.slice (some ⟨b,0,Option.none⟩) n n,t,size,n,cs⟩::R):=by
 have hb:=h.own _ (mem_cons_self ..);have hp:=pairwise_cons.1 h.nodup;refine⟨h.step,fun x hx=>h.own x (mem_cons_of_mem _ hx),hp.2,fun r hr=>?_,pairwise_cons.2 ⟨fun s hs g hg=>?_,h.rdis⟩⟩
 ·rcases mem_cons.1 hr with rfl|hr
  ·refine⟨⟨hn,.inr ⟨b,n,_,rfl,Nat.zero_le _,hb.1,Nat.le_refl _,hm,by simpa using hn,?_⟩⟩,fun g hg=>?_⟩
   ·show List.take (n*size) cs=cs;exact List.take_of_length_le om
   ·cases hg;exact⟨hb.2.1,hb.2.2,fun x hx=>(hp.1 x hx).symm⟩
  ·exact⟨(h.rows r hr).1,fun g hg=>⟨((h.rows r hr).2 g hg).1,((h.rows r hr).2 g hg).2.1,fun x hx=>((h.rows r hr).2 g hg).2.2 x (mem_cons_of_mem _ hx)⟩⟩
 ·cases hg;exact fun e=>((h.rows s hs).2 b e).2.2 _ (mem_cons_self ..) rfl
theorem St.grow{r r':Rw}(h:St M I J w W L R)(u:RUpd R r r' R')(ho:W'.ownsRow 0 r'.e r'.size r'.v r'.n r'.xs)(hg:W.grownBy W' r.v.ownBlock)(ha:r'.v.ownBlock=r.v.ownBlock\/r'.v.ownBlock=some W.heap.size):St M I J w W' L R':=by
 have hr:=h.rows r u.has.mem;have hs:∀x y:Rw,(∀g,x.v.ownBlock=some g->y.v.ownBlock≠some g)->(∀g,y.v.ownBlock=some g->x.v.ownBlock≠some g):=fun x y k g h1 h2=>k g h2 h1;have hup:=h.step.size;refine⟨h.step.grown hg fun k hk=>⟨(hr.2 k hk).1,(hr.2 k hk).2.1⟩,fun x hx=>⟨(h.own x hx).1.keep (hg.block _ (h.lt hx) fun e=>(hr.2 _ e.symm).2.2 x hx rfl),(h.own x hx).2⟩,h.nodup,fun x hx=>?_,u.pw hs h.rdis fun x hx hq g hg'=>?_⟩
 ·rcases u.mem h.rdis hs x hx with rfl|⟨h1,h2⟩
  ·refine⟨ho,fun g hg'=>?_⟩;rcases ha with e|e
   ·exact hr.2 g (e▸hg')
   ·obtain rfl:W.heap.size=g:=by rw[e]at hg';exact Option.some.inj hg'
    exact⟨h.inw.none (Nat.le_refl _),fun hb=>absurd hb om,fun y hy=>Nat.ne_of_lt (h.lt hy)⟩
  ·refine⟨Q1q (h.rows x h1).1 fun g hg'=>hg.block g (h.rlt h1 hg') fun e=>h2 g e.symm hg',(h.rows x h1).2⟩
 ·rcases ha with e|e
  ·exact hq g (e▸hg')
  ·obtain rfl:W.heap.size=g:=by rw[e]at hg';exact Option.some.inj hg'
   exact fun e2=>absurd (h.rlt hx e2) (Nat.lt_irrefl _)
theorem St.made{r:Rw}(h:St M I J w W L R)(ho:W'.ownsRow 0 r.e r.size r.v r.n r.xs)(hg:W.grownBy W' Option.none)(ha:∀g,r.v.ownBlock=some g->g=W.heap.size):St M I J w W' L (r::R):=by
 have hup:=h.step.size;refine⟨h.step.grown hg fun k hk=>(by cases hk),fun x hx=>⟨(h.own x hx).1.keep (hg.block _ (h.lt hx) fun e=>(by cases e)),(h.own x hx).2⟩,h.nodup,fun x hx=>?_,pairwise_cons.2 ⟨fun s hs g hg'=>?_,h.rdis⟩⟩
 ·rcases mem_cons.1 hx with rfl|hx
  ·refine⟨ho,fun g hg'=>?_⟩;obtain rfl:=ha g hg';exact⟨h.inw.none (Nat.le_refl _),fun hb=>absurd hb om,fun y hy=>Nat.ne_of_lt (h.lt hy)⟩
  ·exact⟨Q1q (h.rows x hx).1 fun g hg'=>hg.block g (h.rlt hx hg') fun e=>(by cases e),(h.rows x hx).2⟩
 ·obtain rfl:=ha g hg';exact fun e2=>absurd (h.rlt hs e2) (Nat.lt_irrefl _)
theorem St.reads(h:St M I J w W L R)(hh:Has L b cs t)(n size:Nat)(hn:cs.length=n*size):Q4n W W.heap.size size (some ⟨b,0,Option.none⟩) n cs:=by
 refine⟨hn,fun _=>⟨_,rfl,h.lt hh.mem,fun j u hu=>?_⟩⟩;have ha:(Addr.add ⟨b,0,Option.none⟩ j)=⟨b,j,Option.none⟩:=by unfold Addr.add;split<;>simp_all
 rw[ha,h.cell hh j];exact hu
end
def Inf(P:Program)(T:TypeId)(z:Value)(n y:Nat):Prop:=(P.info? T).map (fun i=>(i.zero,i.size,i.bytes))=some (some z,n,y)
variable{z:Value}{T:TypeId}
theorem Inf.parts{n:Nat}(h:Inf P T z n y):∃i,P.info? T=some i/\i.zero=some z/\i.size=n/\i.bytes=y:=by
 unfold Inf at h;cases hq:P.info? T with
 |none=>rw[hq]at h;cases h
 |some i=>
  rw[hq]at h;have h:=Option.some.inj h;exact⟨i,rfl,congrArg Prod.fst h,congrArg (fun p=>p.2.1) h,congrArg (fun p=>p.2.2) h⟩
theorem Inf.sz{n:Nat}(h:Inf P T z n y):(P.info? T).map (·.size)=some n:=by
 obtain⟨i,h1,_,h2,_⟩:=h.parts;rw[h1,<-h2];rfl
theorem Inf.ze{n:Nat}(h:Inf P T z n y):(P.info? T).bind (·.zero)=some z:=by
 obtain⟨i,h1,h2,_⟩:=h.parts;rw[h1];exact h2
def aggD:TypeDesc->Bool
 |.struct _=>true
 |.array _ _=>true
 |_=>false
section
variable{P:Program}{M:Nat->Prop}{I J:Gh}{w W:World}{L L':List Blk}{R R':List Rw}{ops:Array Oper}{rest:List Oper}{o:Oper}{a:Act}{Q:EAW}{K:AW}{b j n:Nat}{cs sub new old:List Value}{t T:TypeId}{x y:Operand}{v:Value}
theorem Z6b(S:St M I J w W L R)(hh:Has L b cs t)(hu:(P.underlying T).map aggD=some true)(hi:(P.info? T).map (·.size)=some n)(hc:(cs.drop j).take n=sub)(hn:sub.length=n):(loadVar T ⟨b,j,Option.none⟩).run P W=.ok (.agg sub.toArray) W:=by
 have h1:(loadCells ⟨b,j,Option.none⟩ n).run P W=.ok sub.toArray W:=by
  have:=run_loadCells_list (P:=P) (w:=W) ⟨b,j,Option.none⟩ sub (fun i u hu=>by
   have ha:(Addr.add ⟨b,j,Option.none⟩ i)=⟨b,j+i,Option.none⟩:=by unfold Addr.add;split<;>simp_all
   rw[ha,S.cell hh];rw[<-hc,List.getElem?_take]at hu;split at hu
   ·rwa [List.getElem?_drop]at hu
   ·cases hu)
  rwa [hn]at this
 cases hd:P.underlying T with
 |none=>rw[hd]at hu;cases hu
 |some d=>
  rw[hd]at hu;have hagg:(isAgg T).run P W=.ok true W:=by
   exact e1n
  cases hq:P.info? T with
  |none=>rw[hq]at hi;cases hi
  |some i=>
   have hs:i.size=n:=by rw[hq]at hi;simpa using hi
   simp[loadVar,Sem.run_bind,hagg,sizeOf,typeInfo,hq,hs,h1]
theorem Q2m(h:W.cell? ⟨b,j,Option.none⟩=some v)(hu:(P.underlying T).map aggD=some false):(loadVar T ⟨b,j,Option.none⟩).run P W=.ok v W:=by
 cases hd:P.underlying T with
 |none=>rw[hd]at hu;cases hu
 |some d=>
  rw[hd]at hu;have hagg:(isAgg T).run P W=.ok false W:=by
   exact e1n
  simp[loadVar,Sem.run_bind,hagg,h]
theorem Z5s(S:St M I J w W L R)(hh:Has L b old t)(hy:v.cells.toList=sub)(hi:(P.info? T).map (·.size)=some sub.length)(hs:Q1w old j sub new)(h1:sub.all (fun u=>u.oneCell')=true):(storeVar T ⟨b,j,Option.none⟩ v).run P W=.ok () (W.setRow b new.toArray):=by
 have hl:=hs.len;have key:=run_storeCells_at P b j t sub 0 old.toArray W (S.heap hh) (by simpa using hl.2) (fun u hu=>List.all_eq_true.1 h1 u hu);have hv:v.cells.size=sub.length:=by rw[<-hy];simp
 have e:(old.toArray.toList.take (j+0)++sub++old.toArray.toList.drop (j+0+sub.length)).toArray=new.toArray:=by rw[hs.eq];simp
 rw[e]at key;cases hq:P.info? T with
 |none=>rw[hq]at hi;cases hi
 |some i=>
  have hz:i.size=sub.length:=by rw[hq]at hi;simpa using hi
  simp[storeVar,sizeOf,typeInfo,hq,hv,hz,hy,key]
theorem wp_loadS(S:St M I J w W L R)(ho:o.op=.load T x)(hx:a.eval x=.pointer (some ⟨b,j,Option.none⟩))(hh:Has L b cs t)(hu:(P.underlying T).map aggD=some true)(hi:(P.info? T).map (·.size)=some n)(hc:(cs.drop j).take n=sub)(hn:sub.length=n)
  (h:K (a.put o.dst (.agg sub.toArray)) W):o.wp P a W K Q:=by
 unfold Oper.wp execOp;simp only[ho,hx,Instr.loadAt,Instr.sureAddr,Sem.run_bind,Sem.run_pure,Result.andThen_ok,Z6b S hh hu hi hc hn];exact h
theorem X0m(ho:o.op=.load T x)(hx:a.eval x=.pointer (some ⟨b,j,Option.none⟩))(hc:W.cell? ⟨b,j,Option.none⟩=some v)(hu:(P.underlying T).map aggD=some false)
  (h:K (a.put o.dst v) W):o.wp P a W K Q:=by
 unfold Oper.wp execOp;simp only[ho,hx,Instr.loadAt,Instr.sureAddr,Sem.run_bind,Sem.run_pure,Result.andThen_ok,Q2m hc hu];exact h
theorem Q9l(S:St M I J w W L R)(ho:o.op=.store T x y)(hx:a.eval x=.pointer (some ⟨b,j,Option.none⟩))(u:Upd L b old t new L')(hy:(a.eval y).cells.toList=sub)(hi:(P.info? T).map (·.size)=some sub.length)(hs:Q1w old j sub new)(h1:sub.all (fun u=>u.oneCell')=true)
  (h:∀W',St M I J w W' L' R->K (a.put o.dst undef) W'):o.wp P a W K Q:=by
 unfold Oper.wp execOp;simp only[ho,hx,Instr.storeAt,Instr.sureAddr,Sem.run_bind,Sem.run_pure,Result.andThen_ok,Z5s S u.has hy hi hs h1];exact h _ (S.set u)
theorem wp_app{size bytes m c N:Nat}{A:OA}{B:Nat}{xs news:List Value}{i:TypeInfo}{z:Value}{e:TypeId}(S:St M I J w W L R)(s:Operand)
  (ho:o.op=.call {callee:=.builtin .append,args:=#[s,x],argTypes:=#[t,t]})(hs:a.eval s=v)(hx:a.eval x=.slice A m c)(R2:Rw->List Rw)(u:∀r',RUpd R ⟨v,e,size,N,xs⟩ r' (R2 r'))
  (ht:P.underlying t=some (.slice e))(hi:P.info? e=some i)(hz:i.zero=some z)(hsize:i.size=size)(hby:i.bytes=bytes)(hzs:z.cells.size=size)(hsz:0<size)
  (hr:Q4n W B size A m news)(h1:∀u∈news,u.oneCell'=true)(h63:N+m<=maxLen)(hbytes:(N+m)*bytes<=140737488355328)
  (h:∀A' N' c' W',Hid (N'=N+m)->St M I J w W' L (R2 ⟨.slice A' N' c',e,size,N',xs++news⟩)->K (a.put o.dst (.slice A' N' c')) W'):o.wp P a W K Q:=by
 have hr0:=S.row (u ⟨v,e,size,N,xs⟩).has;refine Q8h W s x t ho 0 e i z size bytes ht hi hz hsize hby hzs hsz v N xs hs hr0 B A m c news hx hr h1 h63 hbytes (Nat.zero_le _) fun v' w' g1 g2 g3=>?_;obtain⟨A',c',rfl⟩:=Q6e g1;exact h A' (N+m) c' w' rfl (S.grow (u ⟨.slice A' (N+m) c',e,size,N+m,xs++news⟩) g1 g2 g3)
end
theorem X4l(P:Program)(W:World)(T:TypeId)(v:Value):(Instr.box T v).run P W=.ok (.pointer (some ⟨W.heap.size,0,Option.none⟩)) (W.alloc (.cells v.cells T)):=by simp[Instr.box,newVar,newRow]
theorem Z7q(P:Program)(W:World)(T:TypeId)(z:Value)(hz:(P.info? T).bind (·.zero)=some z):(Instr.alloc T true (.tuple #[])).run P W=.ok (.pointer (some ⟨W.heap.size,0,Option.none⟩)) (W.alloc (.cells z.cells T)):=by
 cases hq:P.info? T with
 |none=>rw[hq]at hz;cases hz
 |some i=>
  rw[hq]at hz;have hz:i.zero=some z:=hz;simp[Instr.alloc,zeroValue,typeInfo,hq,hz,newVar,newRow]
theorem run_slice0(P:Program)(W:World)(t e:TypeId)(ht:P.underlying t=some (.slice e))(he:(P.info? e).isSome=true):(Instr.buildSlice t 0 #[]).run P W=.ok (.slice (some ⟨W.heap.size,0,Option.none⟩) 0 0) (W.alloc (.cells #[] e)):=by
 cases hq:P.info? e with
 |none=>rw[hq]at he;cases he
 |some i=>
  have e0:(Array.range 0).map (fun _=>(default:Value))=#[]:=Array.eq_empty_of_size_eq_zero b0f;simp[Instr.buildSlice,run_underlying ht,sizeOf,typeInfo,hq,Instr.fill,newRow];rw[e0]
theorem Z3j:∀(vs:List Value) (k:Nat) (acc:Array Value),k+vs.length<=acc.size->(vs.zipIdx k).foldl (fun cs (p:Value×Nat)=>cs.setIfInBounds p.2 p.1) acc=(acc.toList.take k++vs++acc.toList.drop (k+vs.length)).toArray
 |[],k,acc,_=>by simp
 |v::vs,k,acc,h=>by
  rw[List.zipIdx_cons,List.foldl_cons,Z3j vs (k+1) _ (by simp at h⊢;omega)];have e:=list_seg_step acc.toList k v vs (by simp at h⊢;omega);simpa[Array.toList_setIfInBounds,Nat.add_assoc]using e
theorem Z8f(P:Program)(W:World)(t e:TypeId)(v:Value)(z:Value)(n:Nat)(ht:P.underlying t=some (.slice e))(he:(P.info? e).map (fun i=>(i.zero,i.size))=some (some z,n))(hz:z.cells.size=n)(hv:v.cells.size=n)(hn:0<n)(hs:n<=2 ^ 24):
  (Instr.buildSlice t 1 #[(0,v)]).run P W=.ok (.slice (some ⟨W.heap.size,0,Option.none⟩) 1 1) (W.alloc (.cells v.cells e)):=by
 cases hq:P.info? e with
 |none=>rw[hq]at he;cases he
 |some i=>
  rw[hq]at he;have h1:=congrArg Prod.fst (Option.some.inj he);have h2:=congrArg Prod.snd (Option.some.inj he);simp only at h1 h2;refine run_buildSlice W t e 1 #[(0,v)] v.cells i z ht hq h1 (by rw[h2];omega) (by rw[h2];omega) ?_;rw[h2];have hl:((Array.range (1*n)).map (z.cells[·% z.cells.size]!)).size=n:=by simp
  have key:=Z3j v.cells.toList 0 ((Array.range (1*n)).map (z.cells[·% z.cells.size]!)) (by rw[hl];simp[hv]);simp only[Instr.fill,Nat.zero_mul,hv,hl,ne_eq,not_true_eq_false,Nat.zero_add,gt_iff_lt,Nat.lt_irrefl,decide_false,Bool.or_false,Bool.false_eq_true,if_false,decide_not,decide_true,Bool.not_true];rw[<-Array.foldl_toList,Array.toList_zipIdx];congr 1;rw[key];have hd:List.drop (0+v.cells.toList.length) ((Array.range (1*n)).map (z.cells[·% z.cells.size]!)).toList=[]:=List.drop_eq_nil_of_le (by simp[hv]);rw[hd];simp
section
variable{P:Program}{M:Nat->Prop}{I J:Gh}{w W:World}{L L':List Blk}{R R':List Rw}{ops:Array Oper}{rest:List Oper}{o:Oper}{a:Act}{Q:EAW}{K:AW}{b j n:Nat}{cs sub new old:List Value}{t T:TypeId}{x y:Operand}{v:Value}
theorem Q0l(hw:Region.wanted o (yielded ops a.tmps)=true)(h:∀K:AW,(∀a w,wpList P ops Q rest a w->K a w)->o.wp P a W K Q):wpList P ops Q (o::rest) a W:=
 wpList_step fun K hK=>by simp only[hw,if_true];exact h K hK
theorem Q0c{f:FuncId}{args:Array Value}{X:Ending->World->Prop}(hi:I.In w)(h:∀W,Hid (St M I I w W [] [])->Calls P f args W X):Calls P f args w X:=h w (St.start hi)
theorem Z8x(S:Hid (St M I J w W L R))(hg:Region.wanted o (yielded ops a.tmps)=true)(ho:o.op=.load T x)(hx:a.eval x=.pointer (some ⟨b,j,Option.none⟩))(hh:Has L b cs t)(hu:(P.underlying T).map aggD=some true){z:Value}{yy:Nat}(hi:Inf P T z n yy)(hc:Sub cs j n sub)
  (h:wpList P ops Q rest (a.put o.dst (.agg sub.toArray)) W):wpList P ops Q (o::rest) a W:=Q0l hg fun _ hK=>wp_loadS S.out ho hx hh hu hi.sz hc.eq.1 hc.eq.2 (hK _ _ h)
theorem wl_load1(S:Hid (St M I J w W L R))(hg:Region.wanted o (yielded ops a.tmps)=true)(ho:o.op=.load T x)(hx:a.eval x=.pointer (some ⟨b,j,Option.none⟩))(hh:Has L b cs t)(hc:cs[j]?=some v)(hu:(P.underlying T).map aggD=some false)
  (h:wpList P ops Q rest (a.put o.dst v) W):wpList P ops Q (o::rest) a W:=Q0l hg fun _ hK=>X0m ho hx ((S.out.cell hh j).trans hc) hu (hK _ _ h)
theorem wl_loadG(hg:Region.wanted o (yielded ops a.tmps)=true)(ho:o.op=.load T x)(hx:a.eval x=.pointer (some ⟨b,j,Option.none⟩))(hc:J.cell ⟨b,j,Option.none⟩ v)(hi:J.In W)(hu:(P.underlying T).map aggD=some false)
  (h:wpList P ops Q rest (a.put o.dst v) W):wpList P ops Q (o::rest) a W:=Q0l hg fun _ hK=>X0m ho hx (hc.at hi) hu (hK _ _ h)
theorem Z5i(S:Hid (St M I J w W L R))(hg:Region.wanted o (yielded ops a.tmps)=true)(ho:o.op=.store T x y)(hx:a.eval x=.pointer (some ⟨b,j,Option.none⟩))(hh:Has L b old t)(hy:Lst (a.eval y).cells.toList sub)(hi:(P.info? T).map (·.size)=some sub.length)(hs:Q1w old j sub new)(h1:sub.all (fun u=>u.oneCell')=true)(u:Upd L b old t new L')
  (h:∀W',Hid (St M I J w W' L' R)->wpList P ops Q rest (a.put o.dst undef) W'):wpList P ops Q (o::rest) a W:=Q0l hg fun _ hK=>Q9l S.out ho hx u hy.eq hi hs h1 fun W' S'=>hK _ _ (h W' S')
theorem Q5j(h:v.oneCell'=true):v.cells=#[v]:=by cases v<;>first|rfl|cases h
theorem wl_store1(S:Hid (St M I J w W L R))(hg:Region.wanted o (yielded ops a.tmps)=true)(ho:o.op=.store T x y)(hx:a.eval x=.pointer (some ⟨b,j,Option.none⟩))(hh:Has L b old t)(hy:a.eval y=v)(h1:v.oneCell'=true)(hi:(P.info? T).map (·.size)=some 1)(hs:Q1w old j [v] new)(u:Upd L b old t new L')
  (h:∀W',Hid (St M I J w W' L' R)->wpList P ops Q rest (a.put o.dst undef) W'):wpList P ops Q (o::rest) a W:=Q0l hg fun _ hK=>Q9l (sub:=[v]) S.out ho hx u (by rw[hy,Q5j h1]) hi hs (by simp[h1]) fun W' S'=>hK _ _ (h W' S')
theorem wl_box(S:Hid (St M I J w W L R))(hg:Region.wanted o (yielded ops a.tmps)=true)(ho:o.op=.box T x)(hy:Lst (a.eval x).cells.toList sub)
  (h:∀b W',Hid (St M I J w W' ((b,sub,.t T)::L) R)->wpList P ops Q rest (a.put o.dst (.pointer (some ⟨b,0,Option.none⟩))) W'):wpList P ops Q (o::rest) a W:=Q0l hg fun _ hK=>by
 unfold Oper.wp execOp;have e:(a.eval x).cells=sub.toArray:=by rw[<-hy.eq]
 simp only[ho,Sem.run_bind,X4l,Result.andThen_ok,e];exact hK _ _ (h _ _ (S.out.alloc _ rfl sub T))
theorem X6x{z:Value}{yy:Nat}(S:Hid (St M I J w W L R))(hg:Region.wanted o (yielded ops a.tmps)=true)(ho:o.op=.alloc T)(hz:Inf P T z n yy)(hy:Lst z.cells.toList sub)
  (h:∀b W',Hid (St M I J w W' ((b,sub,.t T)::L) R)->wpList P ops Q rest (a.put o.dst (.pointer (some ⟨b,0,Option.none⟩))) W'):wpList P ops Q (o::rest) a W:=Q0l hg fun _ hK=>by
 unfold Oper.wp execOp;have e:z.cells=sub.toArray:=by rw[<-hy.eq]
 simp only[ho,Sem.run_bind,Z7q P W T z hz.ze,Result.andThen_ok,e];exact hK _ _ (h _ _ (S.out.alloc _ rfl sub T))
theorem Q0q{e:TypeId}(S:Hid (St M I J w W L R))(hg:Region.wanted o (yielded ops a.tmps)=true)(ho:o.op=.buildSlice t 0 #[])(ht:P.underlying t=some (.slice e))(he:(P.info? e).isSome=true)(size:Nat)
  (h:∀b W',Hid (St M I J w W' L (⟨.slice (some ⟨b,0,Option.none⟩) 0 0,e,size,0,[]⟩::R))->wpList P ops Q rest (a.put o.dst (.slice (some ⟨b,0,Option.none⟩) 0 0)) W'):wpList P ops Q (o::rest) a W:=Q0l hg fun _ hK=>by
 unfold Oper.wp execOp;simp only[ho,Sem.run_bind];have e1:=run_slice0 P W t e ht he;simp only[List.map_toArray,map_nil]at e1⊢;rw[e1];simp only[Result.andThen_ok];exact hK _ _ (h _ _ ((S.out.alloc _ rfl [] e).asrow 0 size b0f (Nat.zero_le _)))
theorem Z6u{e:TypeId}{z:Value}{yy:Nat}(S:Hid (St M I J w W L R))(hg:Region.wanted o (yielded ops a.tmps)=true)(ho:o.op=.buildSlice t 1 #[(0,x)])(ht:P.underlying t=some (.slice e))(he:Inf P e z n yy)(hz:z.cells.size=n)(hy:Lst (a.eval x).cells.toList sub)(hn:sub.length=n)(h0:0<n)(hs:n<=2 ^ 24)
  (h:∀b W',Hid (St M I J w W' ((b,sub,.t e)::L) R)->wpList P ops Q rest (a.put o.dst (.slice (some ⟨b,0,Option.none⟩) 1 1)) W'):wpList P ops Q (o::rest) a W:=Q0l hg fun _ hK=>by
 unfold Oper.wp execOp;have e2:(a.eval x).cells=sub.toArray:=by rw[<-hy.eq]
 have e1:=Z8f P W t e (a.eval x) z n ht (by obtain⟨i,g1,g2,g3,_⟩:=he.parts;rw[g1,<-g2,<-g3];rfl) hz (by rw[e2];simpa using hn) h0 hs;simp only[ho,Sem.run_bind];simp only[List.map_toArray,List.map_cons,map_nil]at e1⊢;rw[e1,e2];simp only[Result.andThen_ok];exact hK _ _ (h _ _ (S.out.alloc _ rfl sub e))
theorem wl_app{size bytes m c N:Nat}{A:OA}{B:Nat}{xs news:List Value}{z:Value}{e:TypeId}(S:Hid (St M I J w W L R))(hg:Region.wanted o (yielded ops a.tmps)=true)(s:Operand)
  (ho:o.op=.call {callee:=.builtin .append,args:=#[s,x],argTypes:=#[t,t]})(hs:a.eval s=v)(hx:a.eval x=.slice A m c)(R2:Rw->List Rw)(u:∀r',RUpd R ⟨v,e,size,N,xs⟩ r' (R2 r'))
  (ht:P.underlying t=some (.slice e))(hi:Inf P e z size bytes)(hzs:z.cells.size=size)(hsz:0<size)
  (hr:Q4n W B size A m news)(h1:∀u∈news,u.oneCell'=true)(h63:N+m<=maxLen)(hbytes:(N+m)*bytes<=140737488355328)
  (h:∀A' N' c' W',Hid (N'=N+m)->Hid (St M I J w W' L (R2 ⟨.slice A' N' c',e,size,N',xs++news⟩))->wpList P ops Q rest (a.put o.dst (.slice A' N' c')) W'):wpList P ops Q (o::rest) a W:=
 Q0l hg fun _ hK=>by
  obtain⟨i,g1,g2,g3,g4⟩:=hi.parts;exact wp_app S.out s ho hs hx R2 u ht g1 g2 g3 g4 hzs hsz hr h1 h63 hbytes fun A' N' c' W' e S'=>hK _ _ (h A' N' c' W' e S')
theorem X7u{E:Prop}{size bytes m c N:Nat}{A:OA}{B:Nat}{xs news:List Value}{z:Value}{e:TypeId}(S:St M I J w W L R)(hg:o.guard=Option.none)(s:Operand)
  (ho:o.op=.call {callee:=.builtin .append,args:=#[s,x],argTypes:=#[t,t]})(hs:a.eval s=v)(hx:a.eval x=.slice A m c)(R2:Rw->List Rw)(u:∀r',RUpd R ⟨v,e,size,N,xs⟩ r' (R2 r'))
  (ht:P.underlying t=some (.slice e))(hi:Inf P e z size bytes)(hzs:z.cells.size=size)(hsz:0<size)
  (hr:Q4n W B size A m news)(h1:∀u∈news,u.oneCell'=true)(h63:N+m<=maxLen)(hbytes:(N+m)*bytes<=140737488355328)
  (h:∀A' N' c' W',Hid (N'=N+m)->Hid (St M I J w W' L (R2 ⟨.slice A' N' c',e,size,N',xs++news⟩))->K (a.put o.dst (.slice A' N' c')) W'):if Region.wanted o (yielded ops a.tmps)=true then Oper.wp P o a W K Q else E:=by
 have hw:Region.wanted o (yielded ops a.tmps)=true:=by simp[Region.wanted,hg]
 rw[if_pos hw];obtain⟨i,g1,g2,g3,g4⟩:=hi.parts;exact wp_app S s ho hs hx R2 u ht g1 g2 g3 g4 hzs hsz hr h1 h63 hbytes h
end
section
variable{P:Program}{f:FuncId}{args:Array Value}{X:Ending->World->Prop}{v:Value}{M:Nat->Prop}{I J:Gh}{w W:World}{L L':List Blk}{R R':List Rw}
theorem sa(S:Hid (St M I J w W L R))(hl:L=L':=by(try simp only[List.cons_append,List.nil_append,List.append_nil,List.append_assoc]);rfl)(hr:R=R':=by(try simp only[List.cons_append,List.nil_append,List.append_nil,List.append_assoc]);rfl):Hid (St M I J w W L' R'):=by subst hl hr;exact S
theorem got(S:Hid (St M I J w W L R))(h:∀w,J.In w->Calls P f args w (Got Nix J w v))(k:∀W',Hid (St M I J w W' L R)->X (.returned v) W'):Calls P f args W X:=(h W S.out.inw).mono fun e W' ⟨he,st⟩=>he▸k W' (Hd (S.out.call st))
end
end
section
theorem in4:Inf prog 4 (.bool false) 1 1:=by unfold Inf;kernel_rfl
theorem in9:Inf prog 9 (.string ⟨#[]⟩) 1 16:=by unfold Inf;kernel_rfl
theorem in35:Inf prog 35 (.agg L0c.toArray) 6 88:=by unfold Inf;kernel_rfl
theorem in47:Inf prog 47 (.agg L1u.toArray) 10 152:=by unfold Inf;kernel_rfl
theorem in57:Inf prog 57 (.agg L1x.toArray) 4 64:=by unfold Inf;kernel_rfl
theorem in79:Inf prog 79 (sn) 1 24:=by unfold Inf;kernel_rfl
theorem in86:Inf prog 86 (.agg L2m.toArray) 10 128:=by unfold Inf;kernel_rfl
theorem in95:Inf prog 95 (.agg #[.string ⟨#[]⟩,sn]) 2 40:=by unfold Inf;kernel_rfl
theorem in169:Inf prog 169 (.agg #[.string ⟨#[]⟩,.string ⟨#[]⟩,sn,sn]) 4 80:=by unfold Inf;kernel_rfl
theorem Z7c:Inf prog 173 (.agg L1e.toArray) 11 168:=by unfold Inf;kernel_rfl
theorem in239:Inf prog 239 (.agg #[.string ⟨#[]⟩,pn,pn,pn]) 4 40:=by unfold Inf;kernel_rfl
theorem in327:Inf prog 327 (.agg #[.string ⟨#[]⟩,sn]) 2 40:=by unfold Inf;kernel_rfl
theorem Q4v:Inf prog 358 (.agg #[pn,pn,pn,pn]) 4 32:=by unfold Inf;kernel_rfl
theorem Z1o:Inf prog 423 (.agg #[pn,pn,pn,pn,pn]) 5 40:=by unfold Inf;kernel_rfl
theorem Z0q:Inf prog 489 (.agg #[.string ⟨#[]⟩,.string ⟨#[]⟩]) 2 32:=by unfold Inf;kernel_rfl
end
section
theorem Q4g(w:World)(dT sT ty elem:TypeId)(g o dLen dCap:Nat)(a:Addr)(sLen sCap:Nat)(cur:Array Value)(t:TypeId)(cs:List Value)(n k:Nat)
  (hu:P.underlying dT=some (.slice elem))(hs:(P.info? elem).map (·.size)=some k)
  (hg:w.heap[g]?=some (.cells cur t (0,0)))(hn:n=Nat.min sLen dLen)(hl:cs.length=n*k)
  (hsrc:∀j v,cs[j]?=some v->w.cell? (a.add j)=some v)(hfit:o+cs.length<=cur.size)(h1:∀v∈cs,v.oneCell'=true):
  (Builtin.copy_ #[dT,sT] ty #[.slice (some ⟨g,o,none⟩) dLen dCap,.slice (some a) sLen sCap]).run P w=
   .ok (goInt n) (w.setRow g (cur.toList.take o++cs++cur.toList.drop (o+cs.length)).toArray):=by
 have hl':=run_loadCells_list (P:=P) w a cs hsrc;have hst:=run_storeCells_at P g o t cs 0 cur w hg (by simpa using hfit) h1;cases hq:P.info? elem with
 |none=>simp[hq]at hs
 |some i=>
  have hi:i.size=k:=by simpa[hq]using hs
  rw[hl]at hl';simp[Builtin.copy_,run_underlying hu,Builtin.lenOf,Builtin.firstCells,sizeOf,typeInfo,hq,hi,<-hn,hl',hst]
theorem Z4g(w:World)(t t2 ty e e2:TypeId)(ht:P.underlying t=some (.slice e))(ht2:P.underlying t2=some (.slice e2))(A:OA)(n c:Nat)(x:Value):
  (Builtin.append_ #[t,t2] ty #[.slice A n c,x]).run P w=(Builtin.append_ #[t,t] ty #[.slice A n c,x]).run P w:=by
 simp[Builtin.append_,run_underlying ht,run_underlying ht2]
section
variable{α:Type}
theorem z0j{P:Prop}(h:P:=by
 simp only[List.length_append,List.length_take,List.length_drop];omega):P:=h
theorem X9d(cur xs new:List α)(p k q:Nat)(hx:xs.length=p+q)(hn:new.length=k)(hc:cur.take (p+q)=xs)(hl:p+k+q<=cur.length):
  (((cur.take (p+k)++xs.drop p++cur.drop (p+k+(xs.drop p).length)).take p++new++(cur.take (p+k)++xs.drop p++cur.drop (p+k+(xs.drop p).length)).drop (p+new.length)).take (p+k+q)=xs.take p++new++xs.drop p)/\
  ((cur.take (p+k)++xs.drop p++cur.drop (p+k+(xs.drop p).length)).take p++new++(cur.take (p+k)++xs.drop p++cur.drop (p+k+(xs.drop p).length)).drop (p+new.length)).length=cur.length:=by
 have e0:(cur.take (p+k)++xs.drop p++cur.drop (p+k+(xs.drop p).length)).take p=xs.take p:=by
  rw[append_assoc,List.take_append_of_le_length b1w,List.take_take,<-hc,List.take_take];congr 1;omega
 have e1:(cur.take (p+k)++xs.drop p++cur.drop (p+k+(xs.drop p).length)).drop (p+new.length)=xs.drop p++cur.drop (p+k+(xs.drop p).length):=by
  rw[append_assoc,hn];exact List.drop_left' b1w
 rw[e0,e1];refine⟨?_,?_⟩
 ·rw[<-append_assoc];exact List.take_left' b2q
 ·exact z0j
theorem X8s(row xs new:List α)(p k q:Nat)(hx:xs.length=p+q)(hn:new.length=k)(hr:row.take p=xs.take p)(hl:p+k+q<=row.length):
  (((row.take p++new++row.drop (p+new.length)).take (p+k)++xs.drop p++(row.take p++new++row.drop (p+new.length)).drop (p+k+(xs.drop p).length)).take (p+k+q)=xs.take p++new++xs.drop p)/\
  ((row.take p++new++row.drop (p+new.length)).take (p+k)++xs.drop p++(row.take p++new++row.drop (p+new.length)).drop (p+k+(xs.drop p).length)).length=row.length:=by
 have e0:(row.take p++new++row.drop (p+new.length)).take (p+k)=xs.take p++new:=by
  rw[hr];exact List.take_left' (by simp only[List.length_append,List.length_take];omega)
 have e1:((row.take p++new++row.drop (p+new.length)).drop (p+k+(xs.drop p).length)).length=row.length -(p+k+q):=by
  exact z0j
 rw[e0];refine⟨?_,?_⟩
 ·exact List.take_left' b2q
 ·rw[List.length_append,e1];exact z0j
end
end
section
def Nm(I:Gh)(b:Nat)(k:PE):Prop:=I.cell ⟨b,0,none⟩ (.string k)/\ByteArray.size k<=maxLen
variable{I J:Gh}
theorem Nm.mono{k:PE}(h:Nm I b k)(l:I.le J):Nm J b k:=⟨h.1.mono l,h.2⟩
def Q0i(b:Nat):List Value:=[pt b,pn,pn,pn]
def Q3u(b:Nat):Value:=.agg #[pt b,pn,pn,pn]
def Q2p(n:Nat×Nat):List Value:=[.pointer (some ⟨n.1,0,none⟩),pn,pn,pn,.pointer (some ⟨n.2,0,none⟩)]
theorem Q3l(b:Nat):(Q0i b).length=4:=rfl
theorem Q6m(n:Nat×Nat):(Q2p n).length=5:=rfl
theorem Z7k{bs:List Nat}:∀u∈bs.flatMap Q0i,u.oneCell'=true:=by
 intro u hu;obtain⟨s,_,h⟩:=List.mem_flatMap.1 hu;simp[Q0i]at h;rcases h with rfl|rfl<;>rfl
theorem nd_one{ns:List (Nat×Nat)}:∀u∈ns.flatMap Q2p,u.oneCell'=true:=by
 intro u hu;obtain⟨s,_,h⟩:=List.mem_flatMap.1 hu;simp[Q2p]at h;rcases h with rfl|rfl|rfl<;>rfl
inductive FSI(I:Gh):Nat->FS->Prop
 | mk (b:Nat) (a1:OA) (c1:Nat) (a2:OA) (c2:Nat) (m:List PE) (bs:List Nat) (c:List (PE×FS)) (ns:List (Nat×Nat))
   (h0:I.cell ⟨b,0,none⟩ (.slice a1 m.length c1)) (h1:I.cell ⟨b,1,none⟩ (.slice a2 c.length c2)) (hc1:m.length<=c1/\c1<=maxLen) (hc2:c.length<=c2/\c2<=maxLen)
   (hb:All2 (Nm I) bs m) (hf1:Q0u I a1 (bs.flatMap Q0i)) (hl:ns.length=c.length) (hf2:Q0u I a2 (ns.flatMap Q2p))
   (hn:∀(i:Nat) n p,ns[i]?=some n->c[i]?=some p->Nm I n.1 p.1) (hk:∀(i:Nat) n p,ns[i]?=some n->c[i]?=some p->FSI I n.2 p.2):FSI I b (.mk m c)
theorem FSI.mono{s:FS}(h:FSI I b s)(l:I.le J):FSI J b s:=by
 induction h with
 |mk b a1 c1 a2 c2 m bs c ns h0 h1 hc1 hc2 hb hf1 hl hf2 hn _ ih=>
  exact .mk b a1 c1 a2 c2 m bs c ns (h0.mono l) (h1.mono l) hc1 hc2 (hb.imp fun _ _ k=>k.mono l) (hf1.mono l) hl (hf2.mono l) (fun i n p x y=>(hn i n p x y).mono l) ih
def Z3c(I:Gh)(b o:Nat)(m:List PE):Prop:=∃(a:OA) (c:Nat) (bs:List Nat),I.cell ⟨b,o,none⟩ (.slice a m.length c)/\m.length<=c/\c<=maxLen/\All2 (Nm I) bs m/\Q0u I a (bs.flatMap Q0i)
def Z0k(I:Gh)(b o:Nat)(c:List (PE×FS)):Prop:=∃(a:OA) (k:Nat) (ns:List (Nat×Nat)),I.cell ⟨b,o,none⟩ (.slice a c.length k)/\c.length<=k/\k<=maxLen/\Q0u I a (ns.flatMap Q2p)/\All2 (fun n (p:PE×FS)=>Nm I n.1 p.1/\FSI I n.2 p.2) ns c
variable{c:List (PE×FS)}
theorem Z0k.mono{o:Nat}(h:Z0k I b o c)(l:I.le J):Z0k J b o c:=by
 obtain⟨a,k,ns,h1,h2,h3,h4,h5⟩:=h;exact⟨a,k,ns,h1.mono l,h2,h3,h4.mono l,h5.imp fun _ _ k=>⟨k.1.mono l,k.2.mono l⟩⟩
variable{m:List PE}
theorem FSI.inv(h:FSI I b (.mk m c)):Z3c I b 0 m/\Z0k I b 1 c:=by
 cases h with
 |mk _ a1 c1 a2 c2 _ bs _ ns h0 h1 hc1 hc2 hb hf1 hl hf2 hn hk=>
  exact⟨⟨a1,c1,bs,h0,hc1.1,hc1.2,hb,hf1⟩,a2,c2,ns,h1,hc2.1,hc2.2,hf2,All2.of hl fun i n p hx hy=>⟨hn i n p hx hy,hk i n p hx hy⟩⟩
theorem FSI.of(h1:Z3c I b 0 m)(h2:Z0k I b 1 c):FSI I b (.mk m c):=by
 obtain⟨a1,c1,bs,h0,g1,g2,hb,hf1⟩:=h1;obtain⟨a2,c2,ns,k0,k1,k2,hf2,hn⟩:=h2;exact .mk b a1 c1 a2 c2 m bs c ns h0 k0 ⟨g1,g2⟩ ⟨k1,k2⟩ hb hf1 hn.length hf2 (fun i n p hx hy=>(hn.get hx hy).1) (fun i n p hx hy=>(hn.get hx hy).2)
def scmp(a b:PE):Int:=if plt a b=true then -1 else if plt b a=true then 1 else 0
variable{a:PE}
theorem Z3f{b:PE}:scmp a b<0<->plt a b=true:=by
 unfold scmp;by_cases h:plt a b=true
 ·simp[h]
 ·by_cases k:plt b a=true<;>simp[h,k]
theorem X5n{b:PE}:scmp a b=0<->a=b:=by
 unfold scmp;by_cases h:plt a b=true
 ·simp[h,Z6x h]
 ·by_cases k:plt b a=true
  ·simp[h,k,(Z6x k).symm]
  ·simp[h,k];exact Q8u b0b (by simpa using k)
end
section
variable{v0 v1 v2 v3 v4 v5:Value}{t:TypeId}
theorem Q8t(h:W.heap[b]?=some (.cells #[v0,v1,v2,v3] t (0,0))):W.cell? ⟨b,0,none⟩=some v0/\W.cell? ⟨b,1,none⟩=some v1/\W.cell? ⟨b,2,none⟩=some v2/\W.cell? ⟨b,3,none⟩=some v3:=⟨Q0e h 0,Q0e h 1,Q0e h 2,Q0e h 3⟩
theorem X7l(h:W.heap[b]?=some (.cells #[v0,v1,v2,v3,v4,v5] t (0,0))):W.cell? ⟨b,0,none⟩=some v0/\W.cell? ⟨b,1,none⟩=some v1/\W.cell? ⟨b,2,none⟩=some v2/\W.cell? ⟨b,3,none⟩=some v3/\W.cell? ⟨b,4,none⟩=some v4/\W.cell? ⟨b,5,none⟩=some v5:=⟨Q0e h 0,Q0e h 1,Q0e h 2,Q0e h 3,Q0e h 4,Q0e h 5⟩
theorem Q9b{v6 v7 v8 v9 v10:Value}(h:W.heap[b]?=some (.cells #[v0,v1,v2,v3,v4,v5,v6,v7,v8,v9,v10] t (0,0))):W.cell? ⟨b,0,none⟩=some v0/\W.cell? ⟨b,1,none⟩=some v1/\W.cell? ⟨b,2,none⟩=some v2/\W.cell? ⟨b,3,none⟩=some v3/\W.cell? ⟨b,4,none⟩=some v4/\W.cell? ⟨b,5,none⟩=some v5/\W.cell? ⟨b,6,none⟩=some v6/\W.cell? ⟨b,7,none⟩=some v7/\W.cell? ⟨b,8,none⟩=some v8/\W.cell? ⟨b,9,none⟩=some v9/\W.cell? ⟨b,10,none⟩=some v10:=⟨Q0e h 0,Q0e h 1,Q0e h 2,Q0e h 3,Q0e h 4,Q0e h 5,Q0e h 6,Q0e h 7,Q0e h 8,Q0e h 9,Q0e h 10⟩
end
end Go.Proofs.YtbmklgemmjgjfaaGreat
