/- Part 8: Mak, Ivt, Fix, Sto, Fld, Frz, Cll, Cls. -/
import Derived.Handy
import Derived.Laws.Rows
import Derived.Laws.Tables
import Derived.Deep.WholeRow
import Derived.Test.YtbmklgemmjgjfaaGreatT04
import Derived.Test.YtbmklgemmjgjfaaGreatT05
namespace Go.Proofs.YtbmklgemmjgjfaaGreat
open List (getElem?_eq_getElem getElem?_map map_cons mem_cons mem_cons_of_mem pairwise_cons)
open Go.RowKit Go.Maps Tryz
set_option linter.unusedVariables false
set_option linter.unusedSimpArgs false
set_option maxRecDepth 100000
set_option maxHeartbeats 1000000
variable{base size g:Nat}{e:TypeId}{w:World}
section
variable{v n k f s kv lv:Value}{B:Nat}{W W':World}
theorem Q6e{n:Nat}{xs:List Value}(h:w.ownsRow base e size v n xs):∃A c,v=.slice A n c:=by
 rcases h.2 with⟨rfl,rfl⟩|⟨g,cap,cur,rfl,_⟩
 ·exact⟨none,0,rfl⟩
 ·exact⟨_,_,rfl⟩
theorem Q1q{w':World}{n:Nat}{xs:List Value}(h:w.ownsRow base e size v n xs)(k:∀g,v.ownBlock=some g->w'.heap[g]?=w.heap[g]?):w'.ownsRow base e size v n xs:=by
 refine⟨h.1,?_⟩;rcases h.2 with h|⟨g,cap,cur,rfl,hb,hh,hr⟩
 ·exact .inl h
 ·exact .inr ⟨g,cap,cur,rfl,hb,(k g rfl).trans hh,hr⟩
theorem Q2e{n:Nat}{xs:List Value}(h:w.ownsRow base e size v n xs)(hg:v.ownBlock=some g):base<=g/\g<w.heap.size/\∃cur,w.heap[g]?=some (.cells cur e (0,0)):=by
 rcases h.2 with⟨rfl,_⟩|⟨g',cap,cur,rfl,hb,hh,hr⟩
 ·cases hg
 ·cases hg;exact⟨hb,Q1r hh,cur,hh⟩
structure Mk(I:Gh)(w W:World)(B:Nat)(k n f s:Value)(kv lv:Value)(xs:List BA)(ys:List V6):Prop where
 step:Step Nix I I w W
 low:w.heap.size<=B
 cells:W.heap[B]?=some (.cells #[k,n,f,s,kv,lv] 35 (0,0))
 keys:W.ownsRow (B+1) 9 1 kv xs.length (xs.map Value.string)
 vals:W.ownsRow (B+1) 35 6 lv ys.length (Q4l ys)
variable{ys:List V6}{xs:List BA}{I:Gh}
theorem Mk.drew(h:Mk I w W B k n f s kv lv xs ys):Mk I w W.drew B k n f s kv lv xs ys:=
 ⟨h.step.drew,h.low,h.cells,h.keys,h.vals⟩
theorem Mk.ne(h:Mk I w W B k n f s kv lv xs ys)(h1:kv.ownBlock=some g)(h2:lv.ownBlock=some g):False:=by
 obtain⟨_,_,c1,e1⟩:=Q2e h.keys h1;obtain⟨_,_,c2,e2⟩:=Q2e h.vals h2;rw[e1]at e2;injection e2 with e2;injection e2 with _ e3;exact absurd e3 b0t
theorem Mk.growK{kv':Value}{xs':List BA}(h:Mk I w W B k n f s kv lv xs ys)(hi:I.In w)
  (ho:W'.ownsRow (B+1) 9 1 kv' xs'.length (xs'.map Value.string))(hg:W.grownBy W' kv.ownBlock):
  Mk I w (W'.setCell ⟨B,4,none⟩ kv') B k n f s kv' lv xs' ys/\∀j,j<B->(W'.setCell ⟨B,4,none⟩ kv').heap[j]?=W.heap[j]?:=by
 have hB:=Q1r h.cells;have e1:W'.heap[B]?=W.heap[B]?:=hg.block B hB (fun e=>by have:=(Q2e h.keys e.symm).1;omega);have low:=h.low;refine⟨⟨?_,low,?_,Q1q ho (fun g hg=>Z3y (by have:=(Q2e ho hg).1;omega)),Q1q h.vals (fun g hg'=>(Z3y (by have:=(Q2e h.vals hg').1;omega)).trans (hg.block g (Q2e h.vals hg').2.1 (fun e=>h.ne e.symm hg')))⟩,fun j hj=>?_⟩
 ·refine(h.step.grown hg fun k hk=>?_).setCell (hi.none low) (fun hb=>absurd hb b1y) _;have:=(Q2e h.keys hk).1;exact⟨hi.none om,fun hb=>absurd hb om⟩
 ·exact(X0k (e1.trans h.cells)).trans b0f
 ·exact(Z3y om).trans (hg.block j om (fun e=>by have:=(Q2e h.keys e.symm).1;omega))
theorem Mk.growL{lv':Value}{ys':List V6}(h:Mk I w W B k n f s kv lv xs ys)(hi:I.In w)
  (ho:W'.ownsRow (B+1) 35 6 lv' ys'.length (Q4l ys'))(hg:W.grownBy W' lv.ownBlock):
  Mk I w (W'.setCell ⟨B,5,none⟩ lv') B k n f s kv lv' xs ys'/\∀j,j<B->(W'.setCell ⟨B,5,none⟩ lv').heap[j]?=W.heap[j]?:=by
 have hB:=Q1r h.cells;have e1:W'.heap[B]?=W.heap[B]?:=hg.block B hB (fun e=>by have:=(Q2e h.vals e.symm).1;omega);have low:=h.low;refine⟨⟨?_,low,?_,Q1q h.keys (fun g hg'=>(Z3y (by have:=(Q2e h.keys hg').1;omega)).trans (hg.block g (Q2e h.keys hg').2.1 (fun e=>h.ne hg' e.symm))),Q1q ho (fun g hg=>Z3y (by have:=(Q2e ho hg).1;omega))⟩,fun j hj=>?_⟩
 ·refine(h.step.grown hg fun k hk=>?_).setCell (hi.none low) (fun hb=>absurd hb b1y) _;have:=(Q2e h.vals hk).1;exact⟨hi.none om,fun hb=>absurd hb om⟩
 ·exact(X0k (e1.trans h.cells)).trans b0f
 ·exact(Z3y om).trans (hg.block j om (fun e=>by have:=(Q2e h.vals e.symm).1;omega))
end
section

def lowb:List BA->BA->Nat
 |[],_=>0
 |a::r,key=>if klt a key=true then lowb r key+1 else 0
theorem X6g:∀(ss:List BA) (key:BA),lowb ss key<=ss.length
 |[],_=>Nat.le_refl _
 |a::r,key=>by
  unfold lowb;split
  ·have:=X6g r key;simp;omega
  ·exact Nat.zero_le _
theorem Z5w:∀{ss:List BA} {key:BA},ss.Pairwise (fun a b=>klt a b=true)->∀{j:Nat} {x:BA},ss[j]?=some x->(j<lowb ss key<->klt x key=true)
 |[],_,_,_,_,h=>by simp at h
 |a::r,key,hp,j,x,h=>by
  obtain⟨h1,h2⟩:=pairwise_cons.1 hp;unfold lowb;by_cases ha:klt a key=true
  ·rw[if_pos ha];cases j with
   |zero=>simp at h;subst h;simp[ha]
   |succ j=>
    rw[<-Z5w h2 (j:=j) (x:=x) b0b];omega
  ·rw[if_neg ha];constructor
   ·intro h;omega
   ·intro hx;cases j with
    |zero=>simp at h;subst h;exact absurd hx ha
    |succ j=>
     exact absurd (Q2g (h1 x (List.mem_of_getElem? b0b)) hx) ha
theorem lowb_uniq{ss:List BA}{key:BA}(hp:ss.Pairwise (fun a b=>klt a b=true)){i:Nat}(hi:i<=ss.length)
  (h:∀(j:Nat) x,ss[j]?=some x->(j<i<->klt x key=true)):i=lowb ss key:=by
 have hl:=X6g ss key;rcases Nat.lt_trichotomy i (lowb ss key)with h1|h1|h1
 ·have hx:ss[i]?=some (ss[i]'om):=getElem?_eq_getElem _;have:=(h i _ hx).2 ((Z5w hp hx).1 h1);omega
 ·exact h1
 ·have hx:ss[lowb ss key]?=some (ss[lowb ss key]'om):=getElem?_eq_getElem _;have:=(Z5w hp hx).2 ((h _ _ hx).1 h1);omega
def insK{α:Type}:List (BA×α)->BA->α->List (BA×α)
 |[],k,v=>[(k,v)]
 |p::m,k,v=>if klt p.1 k=true then p::insK m k v else if p.1=k then(k,v)::m else(k,v)::p::m
def Z8s(ss:List BA)(key:BA):Nat:=if ss[lowb ss key]?=some key then lowb ss key+1 else lowb ss key
theorem X4y{α:Type}:∀(m:List (BA×α)) (k:BA) (v:α),
  insK m k v=m.take (lowb (m.map (·.1)) k)++(k,v)::m.drop (Z8s (m.map (·.1)) k)
 |[],k,v=>by simp[insK,lowb,Z8s]
 |p::m,k,v=>by
  have ih:=X4y m k v;unfold insK Z8s;rw[map_cons];unfold lowb;by_cases h:klt p.1 k=true
  ·rw[if_pos h,if_pos h,ih];unfold Z8s;simp only[List.take_succ_cons,List.cons_append,List.getElem?_cons_succ];congr 3;split<;>rfl
  ·rw[if_neg h,if_neg h];by_cases e:p.1=k
   ·simp[e]
   ·simp[e]
theorem Q2v{α:Type}{m:List (BA×α)}(h:Q0n m)(k:BA)(v:α):Q0n (insK m k v)/\∀p∈insK m k v,p=(k,v)\/p∈m:=by
 induction m with
 |nil=>exact⟨List.pairwise_singleton _ _,fun p hp=>by simp[insK]at hp;exact .inl hp⟩
 |cons p m ih=>
  obtain⟨h1,h2⟩:=pairwise_cons.1 h;obtain⟨i1,i2⟩:=ih h2;unfold insK;by_cases hk:klt p.1 k=true
  ·rw[if_pos hk];refine⟨pairwise_cons.2 ⟨fun q hq=>?_,i1⟩,fun q hq=>?_⟩
   ·rcases i2 q hq with e|e
    ·rw[e];exact hk
    ·exact h1 q e
   ·rcases mem_cons.1 hq with e|e
    ·exact .inr (by simp[e])
    ·rcases i2 q e with e|e
     ·exact .inl e
     ·exact .inr (mem_cons_of_mem _ e)
  ·rw[if_neg hk];by_cases e:p.1=k
   ·rw[if_pos e];subst e;refine⟨pairwise_cons.2 ⟨h1,h2⟩,fun q hq=>?_⟩;rcases mem_cons.1 hq with e|e
    ·exact .inl e
    ·exact .inr (mem_cons_of_mem _ e)
   ·rw[if_neg e];have hkp:klt k p.1=true:=(Q5r e).resolve_left hk;refine⟨pairwise_cons.2 ⟨fun q hq=>?_,h⟩,fun q hq=>?_⟩
    ·rcases mem_cons.1 hq with e|e
     ·rw[e];exact hkp
     ·exact Q2g hkp (h1 q e)
    ·rcases mem_cons.1 hq with e|e
     ·exact .inl e
     ·exact .inr e
theorem Q4y{α:Type}{m:List (BA×α)}(k:BA)(v:α)(l:BA)(h:Q0n m):findK (insK m k v) l=if l=k then some v else findK m l:=by
 induction m with
 |nil=>
  rw[insK,Q0k];by_cases e:l=k
  ·simp[e]
  ·rw[if_neg e,if_neg (Ne.symm e)]
 |cons p m ih=>
  obtain⟨h1,h2⟩:=pairwise_cons.1 h;unfold insK;by_cases hk:klt p.1 k=true
  ·rw[if_pos hk,Q0k,Q0k,ih h2];by_cases e:p.1=l
   ·rw[if_pos e,if_pos e,if_neg (by subst e;exact Q7a hk)]
   ·rw[if_neg e,if_neg e]
  ·rw[if_neg hk];by_cases e:p.1=k
   ·rw[if_pos e,Q0k,Q0k];by_cases e2:l=k
    ·simp[e2]
    ·rw[if_neg (Ne.symm e2),if_neg e2,if_neg (by rw[e];exact Ne.symm e2)]
   ·rw[if_neg e,Q0k];by_cases e2:l=k
    ·simp[e2]
    ·rw[if_neg (Ne.symm e2),if_neg e2]
theorem Q3r{α:Type}(m:List (BA×α))(k:BA)(v:α):(insK m k v).length<=m.length+1:=by
 induction m with
 |nil=>simp[insK]
 |cons p m ih=>
  unfold insK;split
  ·simpa using ih
  ·split<;>simp

def mkM:KT->List BA->List Tr->KT
 |m,k::ks,t::ts=>mkM (insK m k t) ks ts
 |m,_,_=>m
mutual
def IV.tr:IV->Tr
 |.mk k n f s ks l=>
  if k=1 then .bool (n != 0)else if k=2 then .int n else if k=3 then .flt f else if k=4 then .str s
  else if k=5 then .list (trL l)else if k=6 then .map (mkM [] ks (trL l))else .null
def trL:List IV->List Tr
 |[]=>[]
 |x::l=>x.tr::trL l
end
mutual
def Tr.iv:Tr->IV
 |.null=>.mk 0 0 0 ⟨#[]⟩ [] []
 |.bool b=>.mk 1 (if b then 1 else 0) 0 ⟨#[]⟩ [] []
 |.int n=>.mk 2 n 0 ⟨#[]⟩ [] []
 |.flt f=>.mk 3 0 f ⟨#[]⟩ [] []
 |.str s=>.mk 4 0 0 s [] []
 |.list l=>.mk 5 0 0 ⟨#[]⟩ [] (ivL l)
 |.map m=>.mk 6 0 0 ⟨#[]⟩ (m.map (·.1)) (ivM m)
def ivL:List Tr->List IV
 |[]=>[]
 |t::l=>t.iv::ivL l
def ivM:KT->List IV
 |[]=>[]
 |(_,t)::m=>t.iv::ivM m
end
theorem Q9i:∀l:List IV,trL l=l.map IV.tr
 |[]=>rfl
 |x::l=>by rw[trL,Q9i l];rfl
theorem Z6k:∀l:List Tr,ivL l=l.map Tr.iv
 |[]=>rfl
 |x::l=>by rw[ivL,Z6k l];rfl
theorem Z0n:∀m:KT,ivM m=m.map (fun p=>p.2.iv)
 |[]=>rfl
 |(_,x)::l=>by rw[ivM,Z0n l];rfl
inductive Tr.ok:Tr->Prop
 |null:Tr.ok .null
 |bool (b:Bool):Tr.ok (.bool b)
 |int (n:Int):Tr.ok (.int n)
 |flt (f:Nat):Tr.ok (.flt f)
 |str (s:BA):Tr.ok (.str s)
 |list (l:List Tr) (h:∀t,t∈l->Tr.ok t):Tr.ok (.list l)
 |map (m:KT) (hs:Q0n m) (h:∀p,p∈m->Tr.ok p.2):Tr.ok (.map m)
theorem Tr.ok.sorted{m:KT}(h:Tr.ok (.map m)):Q0n m:=by cases h;assumption
theorem Tr.ok.field{m:KT}(h:Tr.ok (.map m)){p:BA×Tr}(hp:p∈m):p.2.ok:=by
 cases h with|map _ _ h=>exact h p hp
theorem mkM_ok:∀(m:KT) (ks:List BA) (ts:List Tr),Q0n m->(∀p,p∈m->Tr.ok p.2)->(∀t,t∈ts->Tr.ok t)->Q0n (mkM m ks ts)/\∀p,p∈mkM m ks ts->Tr.ok p.2
 |m,[],ts,h,h1,h2=>by rw[mkM];exact⟨h,h1⟩;all_goals simp
 |m,k::ks,[],h,h1,h2=>by rw[mkM];exact⟨h,h1⟩;all_goals simp
 |m,k::ks,t::ts,h,h1,h2=>by
  rw[mkM];refine mkM_ok _ ks ts (Q2v h k t).1 (fun p hp=>?_) (fun t ht=>h2 t (mem_cons_of_mem _ ht));rcases(Q2v h k t).2 p hp with e|e
  ·rw[e];exact h2 t (List.mem_cons_self ..)
  ·exact h1 p e
mutual
theorem IV.tr_ok:∀x:IV,x.tr.ok
 |.mk k n f s ks l=>by
  have ih:=trL_ok l;unfold IV.tr;repeat' split
  ·exact .bool _
  ·exact .int _
  ·exact .flt _
  ·exact .str _
  ·exact .list _ ih
  ·obtain⟨h1,h2⟩:=mkM_ok [] ks (trL l) List.Pairwise.nil (fun p hp=>absurd hp b0f) ih;exact .map _ h1 h2
  ·exact .null
theorem trL_ok:∀(l:List IV) (t:Tr),t∈trL l->t.ok
 |[],t,h=>by simp[trL]at h
 |x::l,t,h=>by
  rw[trL]at h;rcases mem_cons.1 h with e|e
  ·rw[e];exact IV.tr_ok x
  ·exact trL_ok l t e
end

theorem X2o{α:Type}{m:List (BA×α)}{k:BA}{v:α}(h:∀p,p∈m->klt p.1 k=true):insK m k v=m++[(k,v)]:=by
 induction m with
 |nil=>rfl
 |cons p m ih=>
  unfold insK;rw[if_pos (h p (List.mem_cons_self ..)),ih fun q hq=>h q (mem_cons_of_mem _ hq)];rfl
theorem Z8k:∀(m acc:KT),Q0n (acc++m)->mkM acc (m.map (·.1)) (m.map (·.2))=acc++m
 |[],acc,_=>by simp[mkM]
 |p::m,acc,h=>by
  rw[map_cons,map_cons,mkM,X2o]
  ·have e:acc++[(p.1,p.2)]++m=acc++p::m:=by simp
   rw[Z8k m _ (by rw[e];exact h),e]
  ·intro q hq;exact(List.pairwise_append.1 h).2.2 q hq p (List.mem_cons_self ..)
theorem Q9k{t:Tr}(h:t.ok):t.iv.tr=t:=by
 induction h with
 |null=>simp[Tr.iv,IV.tr]
 |bool b=>cases b<;>simp[Tr.iv,IV.tr]
 |int n=>simp[Tr.iv,IV.tr]
 |flt n=>simp[Tr.iv,IV.tr]
 |str n=>simp[Tr.iv,IV.tr]
 |list l h ih=>
  have:trL (ivL l)=l:=by
   rw[Q9i,Z6k,List.map_map];conv=>rhs;rw[<-List.map_id l]
   exact List.map_congr_left fun t ht=>ih t ht
  simp[Tr.iv,IV.tr,this]
 |map m hs h ih=>
  have:trL (ivM m)=m.map (·.2):=by
   rw[Q9i,Z0n,List.map_map];exact List.map_congr_left fun p hp=>ih p hp
  simp only[Tr.iv,IV.tr,this];rw[Z8k m [] (by simpa using hs)];simp

mutual
def IV.bulk:IV->Nat
 |.mk _ _ _ s ks l=>1+s.size+(ks.map fun k=>1+k.size).sum+Q4w l
def Q4w:List IV->Nat
 |[]=>0
 |x::l=>x.bulk+Q4w l
end
mutual
def Tr.bulk:Tr->Nat
 |.null=>1
 |.bool _=>1
 |.int _=>1
 |.flt _=>1
 |.str s=>1+s.size
 |.list l=>1+Z2i l
 |.map m=>1+Q3m m
def Z2i:List Tr->Nat
 |[]=>0
 |t::l=>t.bulk+Z2i l
def Q3m:KT->Nat
 |[]=>0
 |(k,t)::m=>1+k.size+t.bulk+Q3m m
end
theorem IV.bulk_pos(x:IV):0<x.bulk:=by cases x;unfold IV.bulk;omega
theorem Z2r:∀l:List IV,l.length<=Q4w l
 |[]=>Nat.zero_le _
 |x::l=>by have:=Z2r l;have:=x.bulk_pos;unfold Q4w;simp;omega
theorem X3o:∀{l:List IV} {i:Nat} {x:IV},l[i]?=some x->x.bulk<=Q4w l
 |[],i,x,h=>by simp at h
 |y::l,0,x,h=>by simp at h;subst h;unfold Q4w;omega
 |y::l,i+1,x,h=>by have:=X3o (l:=l) (i:=i) (x:=x) b0b;unfold Q4w;omega
theorem Z9t:∀ks:List BA,ks.length<=(ks.map fun k=>1+k.size).sum
 |[]=>Nat.zero_le _
 |k::ks=>by have:=Z9t ks;simp;omega
theorem Tr.bulk_pos(x:Tr):0<x.bulk:=by cases x<;>unfold Tr.bulk<;>omega
theorem Z2d:∀l:KT,l.length<=Q3m l
 |[]=>Nat.zero_le _
 |(k,x)::l=>by have:=Z2d l;unfold Q3m;simp;omega
theorem Z6d:∀l:List Tr,l.length<=Z2i l
 |[]=>Nat.zero_le _
 |x::l=>by have:=Z6d l;have:=x.bulk_pos;unfold Z2i;simp;omega
theorem Z7m:∀(m:KT) (k:BA) (t:Tr),Q3m (insK m k t)<=Q3m m+(1+k.size+t.bulk)
 |[],k,t=>by simp[insK,Q3m]
 |(l,u)::m,k,t=>by
  have:=Z7m m k t;unfold insK;split
  ·simp only[Q3m];omega
  ·split<;>simp only[Q3m]<;>omega
theorem X2x:∀(m:KT) (ks:List BA) (ts:List Tr),Q3m (mkM m ks ts)<=Q3m m+(ks.map fun k=>1+k.size).sum+Z2i ts
 |m,[],ts=>by rw[mkM];omega;all_goals simp
 |m,k::ks,[]=>by rw[mkM];omega;all_goals simp
 |m,k::ks,t::ts=>by
  rw[mkM];have:=X2x (insK m k t) ks ts;have:=Z7m m k t;simp only[map_cons,List.sum_cons,Z2i];omega
mutual
theorem Q2o:∀x:IV,x.tr.bulk<=x.bulk
 |.mk k n f s ks l=>by
  have ih:=X9f l;have:=X2x [] ks (trL l);have e:Q3m []=0:=rfl;unfold IV.tr IV.bulk;repeat' split
  all_goals simp only[Tr.bulk];omega
theorem X9f:∀l:List IV,Z2i (trL l)<=Q4w l
 |[]=>Nat.le_refl _
 |x::l=>by
  have:=Q2o x;have:=X9f l;simp only[trL,Z2i,Q4w];omega
end
end
section
theorem X2i(I:Gh)(k n:Int)(f:Nat)(s:BA)(a2:OA)(n1 c1 n2 c2:Nat)(b o:Nat)(ss:List BA)(key:BA)(w:World)(hi:I.In w)
  (hm:ss.length<=maxLen)(hs:∀(i:Nat) s,ss[i]?=some s->I.cell ⟨b,o+i,none⟩ (.string s))(hp:ss.Pairwise (fun a b=>klt a b=true)):
  Calls prog 68 #[.agg #[.int .i64 k,.int .i64 n,.float .f64 f,.string s,.slice (some ⟨b,o,none⟩) ss.length c1,.slice a2 n2 c2],.string key] w fun e w'=>∃(i:Nat) (h:Bool),e=.returned (.tuple #[.int .i64 i,.bool h])/\Step Nix I I w w'/\
   i<=ss.length/\(∀(j:Nat) x,ss[j]?=some x->(j<i<->klt x key=true))/\h=decide (ss[i]?=some key):=by
 unfold maxLen at hm;have HS:=Hd hs;have HP:=Hd hp;clear hs hp;go_enter func68,ntmps68;go_wp2_with fail
 go_quiet (fail);go_wp2_with fail
 go_loopg [6,7] ss.length (fun g x y wr=>∃lo hi:Nat,x=.int .i64 lo/\y=.int .i64 hi/\lo<=hi/\hi<=ss.length/\g=hi -lo/\Step Nix I I w wr/\
   wr.heap[w.heap.size]?=some (.cells #[.int .i64 k,.int .i64 n,.float .f64 f,.string s,.slice (some ⟨b,o,none⟩) ss.length c1,.slice a2 n2 c2] 35 (0,0))/\
   Hid (∀(j:Nat) x,ss[j]?=some x->(j<lo->klt x key=true)/\(hi<=j->klt x key=false)))
 case atStart=>exact⟨0,ss.length,rfl,rfl,Nat.zero_le _,Nat.le_refl _,rfl,((Step.refl hi).alloc _).drewN _,Q1b rfl,Hd (fun j x h=>⟨fun h=>absurd h om,fun h2=>absurd (List.getElem?_eq_some_iff.1 h).1 om⟩)⟩
 case round=>
  obtain⟨lo,hi',rfl,rfl,h1,h2,hg,hst,q,hh⟩:=hrel;have p1:=Q0e q 4;simp at p1;by_cases hlt:lo<hi'
  ·obtain⟨x,hx⟩:∃x,ss[lo+(hi' -lo) / 2]?=some x:=gx om;have cx:=(HS.out _ x hx).at hst.inw;have hml:lo+(hi' -lo) / 2<hi':=by omega
   have HX:=Hd hx;have hmw:((lo:Int)+((hi' -lo:Nat):Int) / 2)=((lo+(hi' -lo) / 2:Nat):Int):=by omega
   have hmw':=Hd hmw;have HG:=Hd hg;clear hx hg hmw;cases hb:klt x key with
   |true=>
    have hbl:Op.bytesLess x.toList key.toList=true:=by rw[Z1t];exact hb
    have HB:=Hd hb;clear hb;go_wp2_with fail
    go_roundg (hi' -(lo+(hi' -lo) / 2+1))
    case measure=>have:=HG.out;omega
    case rel=>
     refine⟨lo+(hi' -lo) / 2+1,hi',?_,rfl,by omega,h2,rfl,hst,q,Hd fun j y hy=>⟨fun hj=>?_,fun hj=>(hh.out j y hy).2 hj⟩⟩
     ·have:=hmw'.out;congr 1;omega
     ·by_cases e:j=lo+(hi' -lo) / 2
      ·subst e;rw[HX.out]at hy;cases hy;exact HB.out
      ·exact Q2g (Z2o HP.out (show j<lo+(hi' -lo) / 2 by omega) hy HX.out) HB.out
   |false=>
    have hbl:Op.bytesLess x.toList key.toList=false:=by rw[Z1t];exact hb
    have HB:=Hd hb;clear hb;go_wp2_with fail
    go_roundg (lo+(hi' -lo) / 2 -lo)
    case measure=>have:=HG.out;omega
    case rel=>
     refine⟨lo,lo+(hi' -lo) / 2,rfl,?_,by omega,by omega,rfl,hst,q,Hd fun j y hy=>⟨fun hj=>(hh.out j y hy).1 hj,fun hj=>?_⟩⟩
     ·have:=hmw'.out;congr 1;omega
     ·by_cases e:j=lo+(hi' -lo) / 2
      ·subst e;rw[HX.out]at hy;cases hy;exact HB.out
      ·have h1:=Z2o HP.out (show lo+(hi' -lo) / 2<j by omega) HX.out hy;cases h2:klt y key with
       |false=>rfl
       |true=>have:=Q2g h1 h2;rw[HB.out]at this;cases this
  ·obtain rfl:lo=hi':=by omega
   clear hg;by_cases hl:lo<ss.length
   ·obtain⟨x,hx⟩:∃x,ss[lo]?=some x:=gx om;have cx:=(HS.out _ x hx).at hst.inw;have hd:decide ((lo:Int)<ss.length)=true:=by simp;omega
    have HX:=Hd hx;clear hx;go_wp2_with fail
    go_quiet (fail);go_wp2_with fail
    go_ret2;refine⟨lo,decide (x=key),by simp;rw[ByteArray.toList_eq,ByteArray.toList_eq,dl],hst.drewN _,h2,fun j y hy=>⟨fun hj=>(hh.out j y hy).1 hj,fun hk=>?_⟩,by rw[HX.out];simp⟩;cases Nat.lt_or_ge j lo with
    |inl h=>exact h
    |inr h=>have:=(hh.out j y hy).2 h;rw[hk]at this;cases this
   ·have hd:decide ((lo:Int)<ss.length)=false:=by simp;omega
    go_wp2_with fail
    go_quiet (fail);go_wp2_with fail
    go_ret2;refine⟨lo,false,rfl,hst.drewN _,h2,fun j y hy=>⟨fun hj=>(hh.out j y hy).1 hj,fun hk=>?_⟩,by rw[List.getElem?_eq_none om];rfl⟩;have:=(List.getElem?_eq_some_iff.1 hy).1;omega
theorem X2t(I:Gh)(k n:Int)(f:Nat)(s:BA)(a1 a2:OA)(c1 n2 c2:Nat)(key:BA)(w:World)(hi:I.In w):
  Calls prog 68 #[.agg #[.int .i64 k,.int .i64 n,.float .f64 f,.string s,.slice a1 0 c1,.slice a2 n2 c2],.string key] w (Got Nix I w (.tuple #[.int .i64 0,.bool false])):=by
 go_enter func68,ntmps68;go_wp2_with fail
 go_quiet (fail);go_wp2_with fail
 go_rounds 1;all_goals go_quiet (fail)
 all_goals go_wp2_with fail
 all_goals go_ret2
 all_goals exact⟨rfl,(((Step.refl hi).alloc _).drewN _).drewN _⟩
theorem Z4a{I:Gh}{a1:OA}{ss:List BA}(h1:Q4h I a1 ss)(hm:ss.length<=maxLen)(hp:ss.Pairwise (fun a b=>klt a b=true))(k n:Int)(f:Nat)(s:BA)(c1:Nat)(a2:OA)(n2 c2:Nat)(key:BA)(w:World)(hi:I.In w):
  Calls prog 68 #[.agg (L0e k n f s a1 ss.length c1 a2 n2 c2).toArray,.string key] w (Got Nix I w (.tuple #[.int .i64 (lowb ss key:Nat),.bool (decide (ss[lowb ss key]?=some key))])):=by
 rcases h1 with⟨_,rfl⟩|⟨b,o,rfl,hs⟩
 ·exact X2t I k n f s a1 a2 c1 n2 c2 key w hi
 ·refine(X2i I k n f s a2 ss.length c1 n2 c2 b o ss key w hi hm hs hp).mono ?_;rintro e w' ⟨i,h,rfl,st,h1,h2,rfl⟩;rw[lowb_uniq hp h1 h2];exact⟨rfl,st⟩
end
section
theorem Q5u{P:Program}{fn:Func}{p q:Tmp}{ty:TypeId}(h:fn.results=#[.cell p ty,.tmp q])(tmps:Array Value)(w:World)(g:Nat)(t:TypeId)(cs:Array Value)(fr:Nat×Nat)(d:TypeDesc)
  (hp:tmps.getD p undef=pt g)(hg:w.heap[g]?=some (.cells cs t fr))
  (hu:P.underlying ty=some d)(hd:(match d with|.struct _|.array _ _=>true|_=>false)=true)(hi:(P.info? ty).map (·.size)=some cs.size):
  (results fn tmps).run P w=.ok (.tuple #[.agg cs,tmps.getD q undef]) w:=by
 have hp':tmps[p]?.getD undef=pt g:=by simpa using hp
 simp[results,h,hp',asAddr,run_loadVar_row w g t ty cs fr d hg hu hd hi]
theorem one6{v0 v1 v2 v3 v4 v5:Value}(h0:v0.oneCell'=true)(h1:v1.oneCell'=true)(h2:v2.oneCell'=true)(h3:v3.oneCell'=true)(h4:v4.oneCell'=true)(h5:v5.oneCell'=true):#[v0,v1,v2,v3,v4,v5].all (fun x=>x.oneCell')=true:=by simp[h0,h1,h2,h3,h4,h5]
theorem sz35:(prog.info? 35).map (·.size)=some 6:=by kernel_rfl
variable{J:Gh}
theorem Gh.In.setRow(h:J.In w)(ha:J g=Option.none)(cs:Array Value):J.In (w.setRow g cs):=fun k x e=>by
 rw[setRow_other w g k cs (fun hk=>by subst hk;rw[ha]at e;cases e)];exact h k x e
theorem Step.setRow{M:Nat->Prop}{I:Gh}{w':World}(h:Step M I J w w')(ha:J g=none)(hm:g<w.heap.size->M g)(cs:Array Value):Step M I J w (w'.setRow g cs):=
 ⟨h.os,h.tape,h.output,by have:=h.size;simp;omega,
  fun k hk hn=>(setRow_other w' g k cs (fun e=>hn (by subst e;exact hm hk))).trans (h.block k hk hn),h.le,h.old,h.inw.setRow ha cs⟩
theorem Q3h{ops:Array Oper}{rest:List Oper}{o:Oper}{a:Act}{Q:EAW}(hgd:o.guard=none)(x:Operand)(ho:o.op=.load 35 x)
  (b off:Nat)(hx:a.eval x=.pointer (some ⟨b,off,none⟩))(v0 v1 v2 v3 v4 v5:Value)
  (h:w.cell? ⟨b,off,none⟩=some v0/\w.cell? ⟨b,off+1,none⟩=some v1/\w.cell? ⟨b,off+2,none⟩=some v2/\w.cell? ⟨b,off+3,none⟩=some v3/\w.cell? ⟨b,off+4,none⟩=some v4/\w.cell? ⟨b,off+5,none⟩=some v5)
  (hK:wpList prog ops Q rest (a.put o.dst (.agg #[v0,v1,v2,v3,v4,v5])) w):wpList prog ops Q (o::rest) a w:=by
 refine wpList_plain hgd fun _ hQ=>?_;have h1:(loadCells ⟨b,off,none⟩ 6).run prog w=.ok #[v0,v1,v2,v3,v4,v5] w:=by
  have:=run_loadCells_list (P:=prog) (w:=w) ⟨b,off,none⟩ [v0,v1,v2,v3,v4,v5] (fun j v hv=>by
   have ha:(Addr.add ⟨b,off,none⟩ j)=⟨b,off+j,none⟩:=by unfold Addr.add;split<;>simp_all
   rw[ha];match j,hv with
   |0,hv=>simp at hv;subst hv;exact h.1
   |1,hv=>simp at hv;subst hv;exact h.2.1
   |2,hv=>simp at hv;subst hv;exact h.2.2.1
   |3,hv=>simp at hv;subst hv;exact h.2.2.2.1
   |4,hv=>simp at hv;subst hv;exact h.2.2.2.2.1
   |5,hv=>simp at hv;subst hv;exact h.2.2.2.2.2
   |j+6,hv=>simp at hv)
  exact this
 have h2:(loadVar 35 ⟨b,off,none⟩).run prog w=.ok (.agg #[v0,v1,v2,v3,v4,v5]) w:=by
  cases hq:prog.info? 35 with
  |none=>have:=sz35;rw[hq]at this;cases this
  |some i=>
   have hs:i.size=6:=by have:=sz35;rw[hq]at this;simpa using this
   simp[loadVar,isAgg,run_underlying underlying35,sizeOf,typeInfo,hq,hs,h1]
 exact e1q
end
section
inductive X2w(I:Gh)(w:World)(v:V6)(h:Bool):Ending->World->Prop
 |mk {w':World} (st:Step Nix I I w w'):X2w I w v h (.returned (.tuple #[v.agg,.bool h])) w'
theorem field_1(I:Gh)(n:Int)(f:Nat)(s:BA)(a1:OA)(n1 c1 b2 o2 n2 c2 i:Nat)(v:V6)(key:BA)(w:World)(hi:I.In w)
  (h3:Six I b2 (o2+i*6) v)(hn:i<n2)(hm:n2<=maxLen)
  (H:∀w,I.In w->Calls prog 68 #[.agg #[.int .i64 6,.int .i64 n,.float .f64 f,.string s,.slice a1 n1 c1,.slice (some ⟨b2,o2,none⟩) n2 c2],.string key] w (Got Nix I w (.tuple #[.int .i64 i,.bool true]))):
  Calls prog 23 #[.agg #[.int .i64 6,.int .i64 n,.float .f64 f,.string s,.slice a1 n1 c1,.slice (some ⟨b2,o2,none⟩) n2 c2],.string key] w (X2w I w v true):=by
 unfold maxLen at hm;go_enter func23,ntmps23;go_wp2_with fail
 refine(H _ ((hi.alloc _).alloc _)).mono ?_;rintro e w' ⟨rfl,st⟩;have q:=st.heap (Q1b (w:=w.alloc _) rfl) (fun x=>x);have p:=Q0e (st.heap ((Q0m b0f).trans (Q1b rfl)) (fun x=>x):w'.heap[w.heap.size]?=some (.cells #[.int .i64 6,.int .i64 n,.float .f64 f,.string s,.slice a1 n1 c1,.slice (some ⟨b2,o2,none⟩) n2 c2] 35 (0,0)));have p0:=p 0;have p5:=p 5;simp at p0 p5 q;have hst:=((((Step.refl (M:=Nix) hi).alloc _).alloc _).trans0 st)
 have d:=h3.at st.inw;have hR:=setRow_heap w' (w.heap.size+1) _ (L0a v).toArray 35 (0,0) q;have ST:=Hd hst;have RH:=Hd hR;clear H p hst h3 st hR;go_wp2_with (first|refine Q3h rf _ rf b2 (o2+i*6) rf _ _ _ _ _ _ d ?_|refine wpList_store_row rf 35 _ _ rf (w.heap.size+1) (L0a v).toArray rf rf 35 _ q sz35 rfl (one6 rfl rfl rfl rfl rfl rfl) ?_)
 exact e0q
theorem z0p{P:Prop}(h:P:=by
 go_wp2_with (refine wpList_store_row rf 35 _ _ rf (w.heap.size+1) L0c.toArray rf rf 35 _ q' sz35 rfl (one6 rfl rfl rfl rfl rfl rfl) ?_)
 exact e0q):P:=h
theorem field_0(I:Gh)(k n:Int)(f:Nat)(s:BA)(a1:OA)(n1 c1:Nat)(a2:OA)(n2 c2 i:Nat)(hb:Bool)(key:BA)(w:World)(hi:I.In w)(hk:k=6->hb=false)
  (H:∀w,I.In w->Calls prog 68 #[.agg (L0e k n f s a1 n1 c1 a2 n2 c2).toArray,.string key] w (Got Nix I w (.tuple #[.int .i64 i,.bool hb]))):
  Calls prog 23 #[.agg (L0e k n f s a1 n1 c1 a2 n2 c2).toArray,.string key] w (X2w I w ⟨0,0,0,⟨#[]⟩,none,0,0,none,0,0⟩ false):=by
 have main:∀q:Bool,(k != 6)=q->(q=false->hb=false)->Calls prog 23 #[.agg (L0e k n f s a1 n1 c1 a2 n2 c2).toArray,.string key] w (X2w I w ⟨0,0,0,⟨#[]⟩,none,0,0,none,0,0⟩ false):=by
  intro q hq hqb;have HQ:=Hd hqb;clear hk hqb;go_enter func23,ntmps23;go_wp2_with fail
  refine(H _ ((hi.alloc _).alloc _)).mono ?_;rintro e w' ⟨rfl,st⟩;have q':=st.heap (Q1b (w:=w.alloc _) rfl) (fun x=>x);have p:=Q0e (st.heap ((Q0m b0f).trans (Q1b rfl)) (fun x=>x):w'.heap[w.heap.size]?=some (.cells (L0e k n f s a1 n1 c1 a2 n2 c2).toArray 35 (0,0)));have p0:=p 0;simp at p0 q';have hst:=((((Step.refl (M:=Nix) hi).alloc _).alloc _).trans0 st)
  have hR:=setRow_heap w' (w.heap.size+1) _ L0c.toArray 35 (0,0) q';have ST:=Hd hst;have RH:=Hd hR;clear H p hst st hR;cases q
  ·obtain rfl:=HQ.out rfl;exact z0p
  ·exact z0p
 refine main (k != 6) rfl fun h=>hk ?_;simpa using h
def Q5p:Tr->BA->Option Tr
 |.map m,k=>findK m k
 |_,_=>none
theorem lowb_at{α:Type}{m:List (BA×α)}(hs:Q0n m){k:BA}{u:α}(h:findK m k=some u):m[lowb (m.map (·.1)) k]?=some (k,u):=by
 have hp:(m.map (·.1)).Pairwise (fun a b=>klt a b=true):=List.pairwise_map.2 hs;obtain⟨i,hi,e⟩:=List.getElem_of_mem (Q0o h);have hi':m[i]?=some (k,u):=by rw[getElem?_eq_getElem hi,e]
 have hk:(m.map (·.1))[i]?=some k:=by rw[getElem?_map,hi'];rfl
 have h1:¬i<lowb (m.map (·.1)) k:=fun x=>by have:=(Z5w hp hk).1 x;rw[Q2r]at this;cases this
 have h2:¬lowb (m.map (·.1)) k<i:=fun x=>by
  have hl:(m.map (·.1))[lowb (m.map (·.1)) k]?=some ((m.map (·.1))[lowb (m.map (·.1)) k]'b1r):=getElem?_eq_getElem _;have:=(Z5w hp hl).2 (Z2o hp x hl hk);omega
 rw[show lowb (m.map (·.1)) k=i by omega];exact hi'
theorem lowb_find{α:Type}{m:List (BA×α)}(hs:Q0n m)(k:BA):decide ((m.map (·.1))[lowb (m.map (·.1)) k]?=some k)=(findK m k).isSome:=by
 cases h:findK m k with
 |some u=>rw[getElem?_map,lowb_at hs h];simp
 |none=>
  simp only[Option.isSome_none,decide_eq_false_iff_not];intro e;rw[getElem?_map]at e;cases hm:m[lowb (m.map (·.1)) k]? with
  |none=>rw[hm]at e;cases e
  |some p=>
   rw[hm]at e;injection e with e;exact Z7t.1 h p.2 (by rw[<-e];exact List.mem_of_getElem? hm)
variable{t:Tr}
theorem iv_keys(h:t.ok):t.iv.ks.Pairwise (fun a b=>klt a b=true):=by
 cases t<;>first|exact List.Pairwise.nil|exact List.pairwise_map.2 h.sorted
theorem X5p{I:Gh}{v:V6}(hv:VIs I v t.iv)(ht:t.ok)(key:BA)(w:World)(hi:I.In w):
  Calls prog 23 #[v.agg,.string key] w fun e w'=>∃v':V6,e=.returned (.tuple #[v'.agg,.bool (Q5p t key).isSome])/\Step Nix I I w w'/\VIs I v' ((Q5p t key).getD .null).iv:=by
 have hkeys:=iv_keys ht;have zero:∀{b:Bool},Q5p t key=none->(∀e w',X2w I w ⟨0,0,0,⟨#[]⟩,none,0,0,none,0,0⟩ false e w'->∃v':V6,e=.returned (.tuple #[v'.agg,.bool (Q5p t key).isSome])/\Step Nix I I w w'/\VIs I v' ((Q5p t key).getD .null).iv):=fun hn e w' h=>by
  cases h with
  |mk st=>rw[hn];exact⟨_,rfl,st,VIs.zero I⟩
 generalize hx:t.iv=x at hv hkeys;cases hv with
 |mk k n f s a1 c1 ks a2 c2 vs l hs hk hks h1 hl hn h2 hh=>
  have F:=fun w hi=>Z4a h1 om hkeys k n f s c1 a2 l.length c2 key w hi;change ks.Pairwise _ at hkeys;cases t with
  |map m=>
   simp only[Tr.iv,IV.mk.injEq]at hx;obtain⟨rfl,rfl,rfl,rfl,rfl,rfl⟩:=hx;rw[lowb_find ht.sorted]at F;cases hf:findK m key with
   |none=>
    rw[hf]at F;exact(field_0 I 6 _ _ _ a1 _ c1 a2 _ c2 _ false key w hi (fun _=>rfl) F).mono fun e w' h=>zero (b:=true) hf e w' h
   |some u=>
    rw[hf]at F;have hm:=lowb_at ht.sorted hf;have hil:lowb (m.map (·.1)) key<(ivM m).length:=by
     rw[Z0n,List.length_map];exact(List.getElem?_eq_some_iff.1 hm).1
    have hvi:vs[lowb (m.map (·.1)) key]?=some (vs[lowb (m.map (·.1)) key]'om):=getElem?_eq_getElem _;have hxi:(ivM m)[lowb (m.map (·.1)) key]?=some u.iv:=by rw[Z0n,getElem?_map,hm];rfl
    rcases h2 with⟨_,rfl⟩|⟨b2,o2,rfl,h2⟩
    ·simp at hvi
    ·refine(field_1 I _ _ _ a1 _ c1 b2 o2 _ c2 _ _ key w hi (h2 _ _ hvi) hil om F).mono ?_;rintro e w' ⟨st⟩;refine⟨vs[lowb (m.map (·.1)) key]'om,?_,st,?_⟩
     ·show Ending.returned _=Ending.returned _;rw[show Q5p (.map m) key=some u from hf];rfl
     ·rw[show Q5p (.map m) key=some u from hf];exact hh _ _ _ hvi hxi
  |_=>
   simp only[Tr.iv,IV.mk.injEq]at hx;obtain⟨rfl,rfl,rfl,rfl,rfl,rfl⟩:=hx;exact(field_0 I _ _ _ _ a1 _ c1 a2 _ c2 _ false key w hi (fun h=>by first|rfl|(exfalso;revert h;decide)) F).mono fun e w' h=>zero (b:=true) rfl e w' h
end
section
inductive All2{α β:Type}(R:α->β->Prop):List α->List β->Prop
 |nil:All2 R [] []
 |cons {a:α} {b:β} {l:List α} {m:List β} (h:R a b) (t:All2 R l m):All2 R (a::l) (b::m)
section
variable{α β:Type}{R S:α->β->Prop}
theorem All2.length{l:List α}{m:List β}(h:All2 R l m):l.length=m.length:=by
 induction h with
 |nil=>rfl
 |cons _ _ ih=>simp[ih]
theorem All2.get{l:List α}{m:List β}(h:All2 R l m){i:Nat}{a:α}{b:β}(ha:l[i]?=some a)(hb:m[i]?=some b):R a b:=by
 induction h generalizing i with
 |nil=>simp at ha
 |cons h t ih=>
  cases i with
  |zero=>simp at ha hb;subst ha;subst hb;exact h
  |succ i=>exact ih (by simpa using ha) (by simpa using hb)
theorem All2.of{l:List α}{m:List β}(hl:l.length=m.length)(h:∀(i:Nat) a b,l[i]?=some a->m[i]?=some b->R a b):All2 R l m:=by
 induction l generalizing m with
 |nil=>cases m with
  |nil=>exact .nil
  |cons _ _=>simp at hl
 |cons a l ih=>cases m with
  |nil=>simp at hl
  |cons b m=>exact .cons (h 0 a b rfl rfl) (ih b2n fun i x y hx hy=>h (i+1) x y (by simpa using hx) (by simpa using hy))
theorem All2.append{l l':List α}{m m':List β}(h:All2 R l m)(k:All2 R l' m'):All2 R (l++l') (m++m'):=by
 induction h with
 |nil=>exact k
 |cons h _ ih=>exact .cons h ih
theorem All2.take{l:List α}{m:List β}(h:All2 R l m)(i:Nat):All2 R (l.take i) (m.take i):=by
 induction h generalizing i with
 |nil=>simp;exact .nil
 |cons h _ ih=>cases i with
  |zero=>exact .nil
  |succ i=>exact .cons h (ih i)
theorem All2.drop{l:List α}{m:List β}(h:All2 R l m)(i:Nat):All2 R (l.drop i) (m.drop i):=by
 induction h generalizing i with
 |nil=>simp;exact .nil
 |cons h t ih=>cases i with
  |zero=>exact .cons h t
  |succ i=>exact ih i
theorem All2.imp{l:List α}{m:List β}(h:All2 R l m)(k:∀a b,R a b->S a b):All2 S l m:=by
 induction h with
 |nil=>exact .nil
 |cons h _ ih=>exact .cons (k _ _ h) ih
theorem All2.last{l:List α}{m:List β}(h:All2 R l m){a:α}{b:β}(k:R a b):All2 R (l++[a]) (m++[b]):=h.append (.cons k .nil)
end
variable{I:Gh}
theorem VIs.inv{v:V6}{x:IV}(h:VIs I v x):∃(a1:OA) (c1:Nat) (a2:OA) (c2:Nat) (vs:List V6),
  v=⟨x.k,x.n,x.f,x.s,a1,x.ks.length,c1,a2,x.l.length,c2⟩/\x.s.size<=maxLen/\(x.ks.length<=c1/\c1<=maxLen)/\(∀y∈x.ks,ByteArray.size y<=maxLen)/\Q4h I a1 x.ks/\(x.l.length<=c2/\c2<=maxLen)/\Q6n I a2 vs/\All2 (VIs I) vs x.l:=by
 cases h with
 |mk k n f s a1 c1 ks a2 c2 vs l hs hk hks h1 hl hn h2 h=>exact⟨a1,c1,a2,c2,vs,rfl,hs,hk,hks,h1,hn,h2,All2.of hl h⟩
theorem VIs.of(k n:Int)(f:Nat)(s:BA)(a1:OA)(c1:Nat)(ks:List BA)(a2:OA)(c2:Nat){vs:List V6}(l:List IV)
   (hs:s.size<=maxLen)(hk:ks.length<=c1/\c1<=maxLen)(hks:∀x∈ks,ByteArray.size x<=maxLen)(h1:Q4h I a1 ks)(hn:l.length<=c2/\c2<=maxLen)(h2:Q6n I a2 vs)
   (h:All2 (VIs I) vs l):VIs I ⟨k,n,f,s,a1,ks.length,c1,a2,l.length,c2⟩ (.mk k n f s ks l):=
 .mk k n f s a1 c1 ks a2 c2 vs l hs hk hks h1 h.length hn h2 fun _ _ _ ha hb=>h.get ha hb
theorem Mk.freeze{w W:World}{B:Nat}{k n:Int}{f:Nat}{s:BA}{kv lv:Value}{xs:List BA}{ys:List V6}(h:Mk I w W B (.int .i64 k) (.int .i64 n) (.float .f64 f) (.string s) kv lv xs ys)(hi:I.In w)
  {zs:List IV}(hz:All2 (VIs I) ys zs)(hs:s.size<=maxLen)(hx:∀x∈xs,ByteArray.size x<=maxLen):
  ∃(v:V6) (J:Gh),(.agg #[.int .i64 k,.int .i64 n,.float .f64 f,.string s,kv,lv]:Value)=v.agg/\Step Nix I J w W/\VIs J v (.mk k n f s xs zs):=by
 haveI:DecidablePred fun g=>some g=kv.ownBlock\/some g=lv.ownBlock:=fun g=>inferInstance;have low:=h.low;have hn:∀g,(some g=kv.ownBlock\/some g=lv.ownBlock)->w.heap.size<=g:=fun g hg=>by
  rcases hg with e|e
  ·have:=(Q2e h.keys e.symm).1;omega
  ·have:=(Q2e h.vals e.symm).1;omega
 have st:=h.step.freeze (fun g=>some g=kv.ownBlock\/some g=lv.ownBlock) (fun g hg=>hi.none (hn g hg)) (fun g hg hb=>absurd hb (by have:=hn g hg;omega));have hJ:∀g,(some g=kv.ownBlock\/some g=lv.ownBlock)->(I.with (fun g=>some g=kv.ownBlock\/some g=lv.ownBlock) W) g=W.heap[g]?:=fun g hg=>by
  unfold Gh.with;rw[if_pos hg]
 obtain⟨a1,c1,rfl,hk1,hk2,h1⟩:=X4k h.keys (fun g hg=>hJ g (.inl hg.symm));obtain⟨a2,c2,rfl,hl1,hl2,h2⟩:=Z7f h.vals (fun g hg=>hJ g (.inr hg.symm));have hzl:=hz.length;refine⟨⟨k,n,f,s,a1,xs.length,c1,a2,zs.length,c2⟩,_,by rw[hzl];rfl,st,VIs.of k n f s a1 c1 xs a2 c2 zs hs ⟨hk1,hk2⟩ hx h1 ⟨by omega,hl2⟩ h2 (hz.imp fun a b hab=>hab.mono st.le)⟩
end
section
theorem info35:(prog.info? 35).map (fun i=>(i.zero,i.size,i.bytes))=some (some (.agg L0c.toArray),6,88):=by kernel_rfl
variable{xs:List Value}{n:Nat}
theorem Q4s{v:Value}(h:w.ownsRow base e size v n xs):∃A N c,v=.slice A N c:=by
 obtain⟨A,c,e⟩:=Q6e h;exact⟨A,n,c,e⟩
theorem own_len{A:OA}{N c:Nat}(h:w.ownsRow base e size (.slice A N c) n xs):N=n:=by
 obtain⟨A',c',e⟩:=Q6e h;injection e
theorem Z5g(w:World)(cs:Array Value)(t:TypeId)(n size:Nat)(h:cs.size=n*size):Q4n (w.alloc (.cells cs t)) (w.heap.size+1) size (some ⟨w.heap.size,0,none⟩) n cs.toList:=by
 refine⟨by simpa using h,fun _=>⟨_,rfl,Nat.lt_succ_self _,fun j u hu=>?_⟩⟩;have:=Q0e (Q1b (w:=w) (o:=.cells cs t) rfl) j;have ha:(Addr.add ⟨w.heap.size,0,none⟩ j)=⟨w.heap.size,j,none⟩:=by unfold Addr.add;split<;>simp_all
 rw[ha,this];simpa using hu
def CleanR(J:Gh)(w:World)(x:IV)(e:Ending)(w':World):Prop:=∃(r:V6) (J':Gh),e=.returned r.agg/\Step Nix J J' w w'/\VIs J' r x.tr.iv
def CleanH(N:Nat):Prop:=∀(J:Gh) (v:V6) (x:IV) (w:World),x.bulk<N->J.In w->VIs J v x->Calls prog 24 #[v.agg] w (CleanR J w x)
structure PLs(I:Gh)(w:World)(l:List IV)(i:Nat)(A:OA)(c:Nat)(J:Gh)(W:World)(rs:List V6):Prop where
 step:Step Nix I J w W
 own:W.ownsRow w.heap.size 35 6 (.slice A i c) i (Q4l rs)
 all:All2 (VIs J) rs ((l.take i).map fun x=>x.tr.iv)
 len:rs.length=i
 no:∀g,(Value.slice A i c).ownBlock=some g->J g=none
theorem X5s(N:Nat)(HC:CleanH N)(I:Gh)(b2 o2 c2:Nat)(vs:List V6)(l:List IV)(w:World)(hi:I.In w)(hm:l.length<=2 ^ 32)(h2:∀(i:Nat) v,vs[i]?=some v->Six I b2 (o2+i*6) v)(ha:All2 (VIs I) vs l)(hb:∀(i:Nat) x,l[i]?=some x->x.bulk<N):
  Calls prog 69 #[.slice (some ⟨b2,o2,none⟩) l.length c2] w fun e w'=>∃A i c J rs,e=.returned (.slice A i c)/\i=l.length/\PLs I w l i A c J w' rs:=by
 obtain⟨i5,hi5,hy0,hy1,hy2⟩:=info_parts info35;have HA:=Hd ha;have H2:=Hd h2;have HB:=Hd hb;clear ha h2 hb;go_enter func69,ntmps69;go_wp2_with (at_make;refine wpList_make_own _ rfl _ _ 33 rfl w.heap.size 35 i5 _ 6 underlying33 hi5 hy0 hy1 .i64 .i64 _ l.length rfl rfl rfl (by rw[hy2];omega) b0q (Nat.le_refl _) ?_;intro w0 hown hgrow)
 have hs0:Step Nix I I w w0:=(Step.refl hi).grown hgrow fun k hk=>by cases hk
 have hn0:∀g,(Value.slice (some ⟨w.heap.size,0,none⟩) 0 l.length).ownBlock=some g->I g=none:=fun g hg=>hi.none (Q2e hown hg).1;go_loopg [3,11] l.length (fun g x y wr=>∃i A c J rs,x=.slice A i c/\y=.int .i64 (i:Nat)/\i<=l.length/\g=l.length -i/\PLs I w l i A c J wr rs)
 case atStart=>exact⟨0,_,_,I,[],rfl,rfl,Nat.zero_le _,rfl,⟨hs0,hown,by simp;exact .nil,rfl,hn0⟩⟩
 case round=>
  obtain⟨i,A,c,J,rs,rfl,rfl,hil,hg,PL⟩:=hrel;by_cases hlt:i<l.length
  ·obtain⟨x,hx⟩:∃x,l[i]?=some x:=gx hlt;obtain⟨v,hv⟩:∃v,vs[i]?=some v:=gx b1l;have d:=(H2.out i v hv).at (PL.step.inw.mono PL.step.le);have hV:=(HA.out.get hv hx).mono PL.step.le;have hBx:=HB.out i x hx;have HX:=Hd (nd3 hx hg hBx);have PH:=Hd PL;have VH:=Hd hV;have hsz:w.heap.size<=wr.heap.size:=PL.step.size;have q1:=heap_alloc_new wr (.cells L0c.toArray 35);have q2:=setRow_heap _ wr.heap.size _ (L0a v).toArray 35 (0,0) q1;have hJn:J wr.heap.size=none:=PL.step.inw.none (Nat.le_refl _);have st1:=(PL.step.alloc (.cells L0c.toArray 35)).setRow hJn (fun hb=>absurd hb om) (L0a v).toArray;have ow1:=Q1q PL.own (fun g hg=>(setRow_other _ wr.heap.size g (L0a v).toArray (by have:=(Q2e PL.own hg).2.1;omega)).trans (Q0m (o:=.cells L0c.toArray 35) (Q2e PL.own hg).2.1));have S1:=Hd st1;have O1:=Hd ow1;clear hx hg hBx PL hV st1 ow1;go_wp2_with (first|refine Q3h rf _ rf b2 (o2+i*6) rf _ _ _ _ _ _ d ?_|refine wpList_store_row rf 35 _ _ rf wr.heap.size (L0a v).toArray rf rf 35 _ q1 sz35 rfl (one6 rfl rfl rfl rfl rfl rfl) ?_|refine wpList_load_row rf 35 _ rf wr.heap.size rf 35 _ _ _ q2 underlying35 rfl sz35 ?_)
   refine(HC J v x _ HX.out.2.2 S1.out.inw VH.out).mono ?_;rintro e w2 ⟨r,J',rfl,st2,hr⟩;have ow2:=Q1q O1.out (fun g hg=>st2.block g (Q2e O1.out hg).2.1 (fun x=>x));have owA:=Q1q ow2 (fun g hg=>Q0m (o:=.cells (L0a r).toArray 35) (Q2e ow2 hg).2.1);have hbl:i+1<=2 ^ 34:=by omega
   have hb1:i+1<=maxLen:=by unfold maxLen;omega
   have hb2:(i+1)*88<=140737488355328:=by omega
   have hbase:w.heap.size<=(w2.alloc (.cells (L0a r).toArray 35)).heap.size:=by have:=(S1.out.trans0 st2).size;simp;omega
   have rd:=Z5g w2 (L0a r).toArray 35 1 6 rfl;clear hbl;unfold V6.agg;go_wp2_with (at_builtin;refine Q5b _ rf _ _ _ rf w.heap.size 35 i5 _ 6 88 underlying33 hi5 hy0 hy1 hy2 rfl om _ i _ rf owA _ _ 1 _ _ rf rd (by simp[Value.oneCell']) hb1 hb2 hbase ?_;intro v' w' hown' hgrow' hat;obtain⟨A',N',c',rfl⟩:=Q4s hown')
   go_roundg (l.length -(i+1))
   case measure=>have:=HX.out.2.1;omega
   case rel=>
    obtain rfl:=own_len hown';have hx:=HX.out.1;have hJ2:∀g,(Value.slice A i c).ownBlock=some g->J' g=none:=fun g hg=>(st2.old g (Q2e O1.out hg).2.1 (fun x=>x)).trans (PH.out.no g hg);refine⟨i+1,A',c',J',rs++[r],rfl,rfl,by omega,rfl,⟨(((S1.out.trans0 st2).alloc _).grown hgrow' fun k hk=>⟨hJ2 k hk,fun hb=>absurd hb (by have:=(Q2e owA hk).1;omega)⟩),?_,?_,by rw[List.length_append,PH.out.len];rfl,fun g hg=>?_⟩⟩
    ·rw[Q6w];exact hown'
    ·have hl:l.take (i+1)=l.take i++[x]:=by rw[List.take_add_one,hx];rfl
     rw[hl,List.map_append];exact(PH.out.all.imp fun a b hab=>hab.mono st2.le).last hr
    ·rcases hat with e|e
     ·exact hJ2 g (by rw[<-e];exact hg)
     ·rw[hg]at e;cases e;exact st2.inw.none b0f
  ·obtain rfl:i=l.length:=by omega
   have PH:=Hd PL;clear PL hg;go_wp2_with fail
   go_ret;exact⟨A,_,c,J,rs,rfl,rfl,PH.out⟩
end
section
inductive Z3v(I:Gh)(w:World)(v:V6):Ending->World->Prop
 |mk {w':World} (st:Step Nix I I w w'):Z3v I w v (.returned v.agg) w'
theorem clean_b1(I:Gh)(n:Int)(hb:(n != 0)=true)(f:Nat)(s:BA)(a1:OA)(n1 c1:Nat)(a2:OA)(n2 c2:Nat)(w:World)(hi:I.In w):
  Calls prog 24 #[.agg (L2c n f s a1 n1 c1 a2 n2 c2).toArray] w (Z3v I w ⟨1,1,0,⟨#[]⟩,none,0,0,none,0,0⟩):=by
 go_enter func24,ntmps24;have q:((w.alloc (.cells (L2c n f s a1 n1 c1 a2 n2 c2).toArray 35)).alloc (.cells L0c.toArray 35)).heap[w.heap.size+1]?=some (.cells L0c.toArray 35 (0,0)):=Q1b b0f;have RH:=Hd (setRow_heap _ (w.heap.size+1) _ #[.int .i64 1,.int .i64 1,.float .f64 0,.string ⟨#[]⟩,sn,sn] 35 (0,0) q);go_wp2_with (refine wpList_store_row rf 35 _ _ rf (w.heap.size+1) #[.int .i64 1,.int .i64 1,.float .f64 0,.string ⟨#[]⟩,sn,sn] rf rf 35 _ q sz35 rfl (one6 rfl rfl rfl rfl rfl rfl) ?_)
 exact e0k
theorem clean_b0(I:Gh)(n:Int)(hb:(n != 0)=false)(f:Nat)(s:BA)(a1:OA)(n1 c1:Nat)(a2:OA)(n2 c2:Nat)(w:World)(hi:I.In w):
  Calls prog 24 #[.agg (L2c n f s a1 n1 c1 a2 n2 c2).toArray] w (Z3v I w ⟨1,0,0,⟨#[]⟩,none,0,0,none,0,0⟩):=by
 go_enter func24,ntmps24;have q:((w.alloc (.cells (L2c n f s a1 n1 c1 a2 n2 c2).toArray 35)).alloc (.cells L0c.toArray 35)).heap[w.heap.size+1]?=some (.cells L0c.toArray 35 (0,0)):=Q1b b0f;have RH:=Hd (setRow_heap _ (w.heap.size+1) _ #[.int .i64 1,.int .i64 0,.float .f64 0,.string ⟨#[]⟩,sn,sn] 35 (0,0) q);go_wp2_with (refine wpList_store_row rf 35 _ _ rf (w.heap.size+1) #[.int .i64 1,.int .i64 0,.float .f64 0,.string ⟨#[]⟩,sn,sn] rf rf 35 _ q sz35 rfl (one6 rfl rfl rfl rfl rfl rfl) ?_)
 exact e0k
theorem clean_i(I:Gh)(n:Int)(f:Nat)(s:BA)(a1:OA)(n1 c1:Nat)(a2:OA)(n2 c2:Nat)(w:World)(hi:I.In w):
  Calls prog 24 #[.agg (L2l n f s a1 n1 c1 a2 n2 c2).toArray] w (Z3v I w ⟨2,n,0,⟨#[]⟩,none,0,0,none,0,0⟩):=by
 go_enter func24,ntmps24;have q:((w.alloc (.cells (L2l n f s a1 n1 c1 a2 n2 c2).toArray 35)).alloc (.cells L0c.toArray 35)).heap[w.heap.size+1]?=some (.cells L0c.toArray 35 (0,0)):=Q1b b0f;have RH:=Hd (setRow_heap _ (w.heap.size+1) _ #[.int .i64 2,.int .i64 n,.float .f64 0,.string ⟨#[]⟩,sn,sn] 35 (0,0) q);go_wp2_with (refine wpList_store_row rf 35 _ _ rf (w.heap.size+1) #[.int .i64 2,.int .i64 n,.float .f64 0,.string ⟨#[]⟩,sn,sn] rf rf 35 _ q sz35 rfl (one6 rfl rfl rfl rfl rfl rfl) ?_)
 exact e0k
theorem clean_f(I:Gh)(n:Int)(f:Nat)(s:BA)(a1:OA)(n1 c1:Nat)(a2:OA)(n2 c2:Nat)(w:World)(hi:I.In w):
  Calls prog 24 #[.agg (L2k n f s a1 n1 c1 a2 n2 c2).toArray] w (Z3v I w ⟨3,0,f,⟨#[]⟩,none,0,0,none,0,0⟩):=by
 go_enter func24,ntmps24;have q:((w.alloc (.cells (L2k n f s a1 n1 c1 a2 n2 c2).toArray 35)).alloc (.cells L0c.toArray 35)).heap[w.heap.size+1]?=some (.cells L0c.toArray 35 (0,0)):=Q1b b0f;have RH:=Hd (setRow_heap _ (w.heap.size+1) _ #[.int .i64 3,.int .i64 0,.float .f64 f,.string ⟨#[]⟩,sn,sn] 35 (0,0) q);go_wp2_with (refine wpList_store_row rf 35 _ _ rf (w.heap.size+1) #[.int .i64 3,.int .i64 0,.float .f64 f,.string ⟨#[]⟩,sn,sn] rf rf 35 _ q sz35 rfl (one6 rfl rfl rfl rfl rfl rfl) ?_)
 exact e0k
theorem clean_s(I:Gh)(n:Int)(f:Nat)(s:BA)(a1:OA)(n1 c1:Nat)(a2:OA)(n2 c2:Nat)(w:World)(hi:I.In w):
  Calls prog 24 #[.agg (L2s n f s a1 n1 c1 a2 n2 c2).toArray] w (Z3v I w ⟨4,0,0,s,none,0,0,none,0,0⟩):=by
 go_enter func24,ntmps24;have q:((w.alloc (.cells (L2s n f s a1 n1 c1 a2 n2 c2).toArray 35)).alloc (.cells L0c.toArray 35)).heap[w.heap.size+1]?=some (.cells L0c.toArray 35 (0,0)):=Q1b b0f;have RH:=Hd (setRow_heap _ (w.heap.size+1) _ #[.int .i64 4,.int .i64 0,.float .f64 0,.string s,sn,sn] 35 (0,0) q);go_wp2_with (refine wpList_store_row rf 35 _ _ rf (w.heap.size+1) #[.int .i64 4,.int .i64 0,.float .f64 0,.string s,sn,sn] rf rf 35 _ q sz35 rfl (one6 rfl rfl rfl rfl rfl rfl) ?_)
 exact e0k
theorem clean_0(I:Gh)(k n:Int)(h1:(k==1)=false)(h2:(k==2)=false)(h3:(k==3)=false)(h4:(k==4)=false)(h5:(k==5)=false)(h6:(k==6)=false)(f:Nat)(s:BA)(a1:OA)(n1 c1:Nat)(a2:OA)(n2 c2:Nat)(w:World)(hi:I.In w):
  Calls prog 24 #[.agg (L0e k n f s a1 n1 c1 a2 n2 c2).toArray] w (Z3v I w ⟨0,0,0,⟨#[]⟩,none,0,0,none,0,0⟩):=by
 go_enter func24,ntmps24;have q:((w.alloc (.cells (L0e k n f s a1 n1 c1 a2 n2 c2).toArray 35)).alloc (.cells L0c.toArray 35)).heap[w.heap.size+1]?=some (.cells L0c.toArray 35 (0,0)):=Q1b b0f;have RH:=Hd (setRow_heap _ (w.heap.size+1) _ L0c.toArray 35 (0,0) q);go_wp2_with (refine wpList_store_row rf 35 _ _ rf (w.heap.size+1) L0c.toArray rf rf 35 _ q sz35 rfl (one6 rfl rfl rfl rfl rfl rfl) ?_)
 exact e0k
end
end Go.Proofs.YtbmklgemmjgjfaaGreat
