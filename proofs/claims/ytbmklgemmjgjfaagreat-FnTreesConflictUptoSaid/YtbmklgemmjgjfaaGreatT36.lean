/- Part 36: Rng, Rwl, Plm, Ord. -/
import Derived.Test.YtbmklgemmjgjfaaGreatT35
namespace Go.Proofs.YtbmklgemmjgjfaaGreat
open List (all_nil mem_cons mem_cons_of_mem mem_cons_self pairwise_cons)
open Go.RowKit Go.Maps Tryz
set_option linter.unusedVariables false
set_option linter.unusedSimpArgs false
set_option maxRecDepth 100000
set_option maxHeartbeats 16000000
section
section
variable{M:Nat->Prop}{I J K:Gh}{w W W':World}{L L':List Blk}{R R':List Rw}{g:Nat}
structure Q4r(J:Gh)(w W:World)(L:List Blk)(R:List Rw)(g:Nat):Prop where
 l:∀x∈L,x.1≠g
 r:∀r∈R,r.v.ownBlock≠some g
 j:J g=none
 ge:w.heap.size<=g
 lt:g<W.heap.size
theorem Q4r.notMine(h:Q4r J w W L R g):¬Mine L R g:=by
 rintro(⟨x,hx,e⟩|⟨r,hr,e⟩)
 ·exact h.l x hx e
 ·exact h.r r hr e
theorem St.ranged(h:St M I J w W L R)(hg:W.grownBy W' Option.none):St M I J w W' L R:=
 ⟨h.step.grown hg fun k hk=>(by cases hk),fun x hx=>⟨(h.own x hx).1.keep (hg.block _ (h.lt hx) fun e=>(by cases e)),(h.own x hx).2⟩,h.nodup,fun x hx=>⟨Q1q (h.rows x hx).1 fun g hg'=>hg.block g (h.rlt hx hg') fun e=>(by cases e),(h.rows x hx).2⟩,h.rdis⟩
theorem Q4r.of_new(h:St M I J w W L R)(hW:W.heap.size<W'.heap.size):Q4r J w W' L R W.heap.size:=
 ⟨fun x hx e=>by have:=h.lt hx;omega,fun r hr e=>by have:=h.rlt hr e;omega,h.inw.none (Nat.le_refl _),h.step.size,hW⟩
theorem St.nexted(h:St M I J w W L R)(ha:Q4r J w W L R g)(hg:W.grownBy W' (some g)):St M I J w W' L R:=
 ⟨h.step.grown hg fun k hk=>(by cases hk;exact⟨ha.j,fun hlt=>absurd hlt (by have:=ha.ge;omega)⟩),fun x hx=>⟨(h.own x hx).1.keep (hg.block _ (h.lt hx) fun e=>ha.l x hx (Option.some.inj e)),(h.own x hx).2⟩,h.nodup,fun x hx=>⟨Q1q (h.rows x hx).1 fun k hk=>hg.block k (h.rlt hx hk) fun e=>ha.r x hx (by rw[hk,e]),(h.rows x hx).2⟩,h.rdis⟩
theorem Q4r.back(ha:Q4r J w W L R g)(T:St (Mine L R) J K W W' L' R'):W'.heap[g]?=W.heap[g]?/\Q4r K w W' L' R' g:=by
 have hn:=ha.notMine;refine⟨T.step.block g ha.lt hn,fun x hx e=>hn ?_,fun r hr e=>hn ?_,(T.step.old g ha.lt hn).trans ha.j,ha.ge,by have:=T.step.size;have:=ha.lt;omega⟩
 ·rw[<-e];exact(T.own x hx).2.2 (by rw[e];exact ha.lt)
 ·exact((T.rows r hr).2 g e).2.1 ha.lt
theorem St.back0(S:St M I J w W L R)(T:St (Mine L R) J K W W' L' R'):St M I K w W' L' R':=by
 have:=St.back (L0:=[]) (R0:=[]) (by simpa using S) T;simpa using this
end
theorem Gh.map.keep{J K:Gh}{M:Nat->Prop}{w W W':World}{L:List Blk}{R:List Rw}{r:Nat}{m:KV}(h:J.map r m)(h1:J.In W)(S:St M J K w W' L R):W'.heap[r]?=W.heap[r]?:=by
 obtain⟨o,ho,_⟩:=h;rw[S.inw _ _ (S.step.le _ _ ho),h1 _ _ ho]
theorem Z7i{α:Type}:∀{l m:List (BA×α)},Q0n l->Q0n m->(∀k,findK l k=findK m k)->l=m
 |[],[],_,_,_=>rfl
 |[],q::m,_,_,h=>by have:=h q.1;rw[Q0k,if_pos rfl]at this;simp[findK]at this
 |p::l,[],_,_,h=>by have:=h p.1;rw[Q0k,if_pos rfl]at this;simp[findK]at this
 |p::l,q::m,hl,hm,h=>by
  have tl:=(pairwise_cons.1 hl).1;have tm:=(pairwise_cons.1 hm).1;have low:∀{β:Type} {n:List (BA×β)} {k:BA},(∀r∈n,klt k r.1=true)->findK n k=none:=fun{β n k} h=>by
   cases hf:findK n k with
   |none=>rfl
   |some v=>
    have:=h _ (Q0o hf);rw[Q2r]at this;cases this
  have e:p.1=q.1:=by
   by_cases hc:p.1=q.1
   ·exact hc
   ·rcases Q5r hc with hk|hk
    ·have:=h p.1;rw[Q0k,if_pos rfl,low (n:=q::m) fun r hr=>?_]at this
     ·cases this
     ·rcases mem_cons.1 hr with rfl|hr
      ·exact hk
      ·exact Q2g hk (tm r hr)
    ·have:=h q.1;rw[Q0k (p:=q),if_pos rfl,low (n:=p::l) fun r hr=>?_]at this
     ·cases this
     ·rcases mem_cons.1 hr with rfl|hr
      ·exact hk
      ·exact Q2g hk (tl r hr)
  have e2:p.2=q.2:=by
   have:=h p.1;rw[Q0k,if_pos rfl,Q0k,if_pos e.symm]at this;exact Option.some.inj this
  have e3:p=q:=Prod.ext e e2;subst e3;rw[Z7i (pairwise_cons.1 hl).2 (pairwise_cons.1 hm).2 fun k=>?_];by_cases hk:p.1=k
  ·subst hk;rw[low tl,low tm]
  ·have:=h k;rwa [Q0k,if_neg hk,Q0k,if_neg hk]at this
end
section
section
variable{M:Nat->Prop}{I J:Gh}{w W:World}{L:List Blk}{R:List Rw}{g n c size:Nat}{e:TypeId}{xs:List Value}
theorem St.rset(S:St M I J w W L (⟨.slice (some ⟨g,0,Option.none⟩) n c,e,size,n,xs⟩::R)){cur:Array Value}(hg:W.heap[g]?=some (.cells cur e (0,0)))(cur':List Value)(hs:cur'.length=cur.size):
  St M I J w (W.setRow g cur'.toArray) L (⟨.slice (some ⟨g,0,Option.none⟩) n c,e,size,n,cur'.take (n*size)⟩::R):=by
 have hr:=S.rows _ (mem_cons_self ..);have hp:=pairwise_cons.1 S.rdis;have h0:=hr.2 g rfl;refine⟨S.step.setRow h0.1 h0.2.1 _,fun x hx=>⟨(S.own x hx).1.keep (setRow_other _ _ _ _ (h0.2.2 x hx)),(S.own x hx).2⟩,S.nodup,fun r hr2=>?_,pairwise_cons.2 ⟨fun s hs g' hg'=>hp.1 s hs g' hg',hp.2⟩⟩;rcases mem_cons.1 hr2 with rfl|hr2
 ·refine⟨?_,hr.2⟩;rcases hr.1.2 with⟨e1,_⟩|⟨g',cap,cur0,e1,_,hh,hn,hm,hc,ht⟩
  ·cases e1
  ·injection e1 with e1 e2 e3;injection e1 with e1;injection e1 with e1;subst e1;subst e3;rw[hg]at hh;injection hh with hh;injection hh with hh;subst hh;refine⟨?_,.inr ⟨g,c,_,rfl,Nat.zero_le _,setRow_heap _ _ _ _ _ _ hg,hn,hm,by rw[List.size_toArray,hs];exact hc,rfl⟩⟩;rw[List.length_take,hs,hc];exact Nat.min_eq_left (Nat.mul_le_mul_right _ hn)
 ·exact⟨Q1q (S.rows r (mem_cons_of_mem _ hr2)).1 fun g' hg'=>setRow_other _ _ _ _ (fun e=>hp.1 r hr2 g rfl (e▸hg')),(S.rows r (mem_cons_of_mem _ hr2)).2⟩
theorem St.rcur(S:St M I J w W L (⟨.slice (some ⟨g,0,Option.none⟩) n c,e,size,n,xs⟩::R)):∃cur:Array Value,W.heap[g]?=some (.cells cur e (0,0))/\cur.size=c*size/\cur.toList.take (n*size)=xs/\n<=c:=by
 rcases(S.rows _ (mem_cons_self ..)).1.2 with⟨e1,_⟩|⟨g',cap,cur0,e1,_,hh,hn,hm,hc,ht⟩
 ·cases e1
 ·injection e1 with e1 e2 e3;injection e1 with e1;injection e1 with e1;subst e1;subst e3;exact⟨cur0,hh,hc,ht,hn⟩
end
section
variable{P:Program}{M:Nat->Prop}{I J:Gh}{w W:World}{L:List Blk}{R:List Rw}{g n c:Nat}{e:TypeId}{xs:List Value}{ops:Array Oper}{rest:List Oper}{o:Oper}{a:Act}{Q:EAW}{K:AW}{T:TypeId}{x y:Operand}{v:Value}
theorem Z7e{E:Prop}{d s:Operand}{dT sT:TypeId}(S:St M I J w W L (⟨.slice (some ⟨g,0,none⟩) n c,e,1,n,xs⟩::R))(hw:o.guard=none)
  (ho:o.op=.call {callee:=.builtin .copy,args:=#[d,s],argTypes:=#[dT,sT]})(hu:P.underlying dT=some (.slice e))(hs1:(P.info? e).map (·.size)=some 1)
  (dp sp:OA)(dl dc sl sc:Nat)(hd:a.eval d=.slice dp dl dc)(hs:a.eval s=.slice sp sl sc)(i j m:Nat)(hm:m=Nat.min sl dl)(hp:0<m->dp=some ⟨g,i,none⟩/\sp=some ⟨g,j,none⟩)(hi:i+m<=n)(hj:j+m<=n)(h1:∀u∈xs,u.oneCell'=true)
  (h:∀W',Hid (St M I J w W' L (⟨.slice (some ⟨g,0,none⟩) n c,e,1,n,xs.take i++(xs.drop j).take m++xs.drop (i+m)⟩::R))->K (a.put o.dst (goInt m)) W'):
  if Region.wanted o (yielded ops a.tmps)=true then Oper.wp P o a W K Q else E:=by
 have hww:Region.wanted o (yielded ops a.tmps)=true:=by simp[Region.wanted,hw]
 rw[if_pos hww];obtain⟨cur,hg,hc,ht,hnc⟩:=S.rcur;rw[Nat.mul_one]at hc ht;have hxl:xs.length=n:=by rw[<-ht,List.length_take,Array.length_toList,hc];exact Nat.min_eq_left hnc
 by_cases h0:m=0
 ·subst h0;have hrun:=run_copy_none (P:=P) W dT sT o.type e dp sp dl dc sl sc hu hs1 hm.symm;have e1:xs.take i++(xs.drop j).take 0++xs.drop (i+0)=xs:=by simp
  have:=h W (by rw[e1];exact S);exact e0e
 ·obtain⟨rfl,rfl⟩:=hp om;have hcs:((xs.drop j).take m).length=m*1:=by rw[List.length_take,List.length_drop,hxl,Nat.mul_one];omega
  have hrun:=Q4g (P:=P) W dT sT o.type e g i dl dc ⟨g,j,none⟩ sl sc cur e ((xs.drop j).take m) m 1 hu hs1 hg hm hcs
   (fun k u hu=>by
    have ha:(Addr.add ⟨g,j,none⟩ k)=⟨g,j+k,none⟩:=by unfold Addr.add;split<;>simp_all
    rw[ha,Q0e hg];rw[List.getElem?_take]at hu;split at hu
    ·rw[List.getElem?_drop]at hu;exact Z2e ht hu
    ·cases hu)
   (by rw[hcs,hc];omega) (fun u hu=>h1 u (List.mem_of_mem_drop (List.mem_of_mem_take hu)))
  rw[hcs,Nat.mul_one]at hrun;have hlen:(cur.toList.take i++(xs.drop j).take m++cur.toList.drop (i+m)).length=cur.size:=by
   simp only[List.length_append,List.length_take,List.length_drop,Array.length_toList,hxl,hc];omega
  have S2:=S.rset hg _ hlen;have e1:(cur.toList.take i++(xs.drop j).take m++cur.toList.drop (i+m)).take (n*1)=xs.take i++(xs.drop j).take m++xs.drop (i+m):=by
   have e2:(xs.take i)=cur.toList.take i:=by rw[<-ht,List.take_take];congr 1;omega
   have e3:xs.drop (i+m)=(cur.toList.drop (i+m)).take (n -(i+m)):=by rw[<-ht,List.drop_take]
   have hl1:(cur.toList.take i++(xs.drop j).take m).length=i+m:=by
    simp only[List.length_append,List.length_take,List.length_drop,Array.length_toList,hxl,hc];omega
   rw[Nat.mul_one,e2,e3,List.take_append,hl1,List.take_of_length_le (by rw[hl1];exact hi)]
  rw[e1]at S2;have:=h _ S2;exact e0e
theorem Z6h{j:Nat}(S:Hid (St M I J w W L (⟨.slice (some ⟨g,0,none⟩) n c,e,1,n,xs⟩::R)))(hg:Region.wanted o (yielded ops a.tmps)=true)(ho:o.op=.store T x y)(hx:a.eval x=.pointer (some ⟨g,j,none⟩))(hy:a.eval y=v)(h1:v.oneCell'=true)(hi:(P.info? T).map (·.size)=some 1)(hj:j<n)
  (h:∀W',Hid (St M I J w W' L (⟨.slice (some ⟨g,0,none⟩) n c,e,1,n,xs.set j v⟩::R))->wpList P ops Q rest (a.put o.dst undef) W'):wpList P ops Q (o::rest) a W:=Q0l hg fun _ hK=>by
 obtain⟨cur,hh,hc,ht,hnc⟩:=S.out.rcur;rw[Nat.mul_one]at hc ht;have key:=run_storeCells_at P g j e [v] 0 cur W hh b1r (fun u hu=>by simp at hu;rw[hu];exact h1);have hvc:=Q5j h1;have e1:cur.toList.take (j+0)++[v]++cur.toList.drop (j+0+[v].length)=cur.toList.set j v:=by
  rw[List.set_eq_take_append_cons_drop,if_pos (by rw[Array.length_toList];omega)];simp
 rw[e1]at key;have S2:=S.out.rset hh (cur.toList.set j v) b0f;have e2:(cur.toList.set j v).take (n*1)=xs.set j v:=by rw[Nat.mul_one,<-ht,List.take_set]
 rw[e2]at S2;have hrun:(storeVar T ⟨g,j,none⟩ v).run P W=.ok () (W.setRow g (cur.toList.set j v).toArray):=by
  cases hq:P.info? T with
  |none=>rw[hq]at hi;cases hi
  |some i=>
   have hz:i.size=1:=by rw[hq]at hi;simpa using hi
   have e3:#[v].toList=[v]:=rfl;rw[<-e3]at key;simp[storeVar,sizeOf,typeInfo,hq,hvc,hz,key]
 unfold Oper.wp execOp;simp only[ho,hx,hy,Instr.storeAt,Instr.sureAddr,Sem.run_bind,Sem.run_pure,Result.andThen_ok,hrun];exact hK _ _ (h _ S2)
end
end
section
theorem Z6l{ma mb:KT}(hs:Q0n ma)(h:∀k x y,findK ma k=some x->findK mb k=some y->Q2d x y=true):Q7l ma mb=true:=by
 rw[Z2t,List.all_eq_true];rintro⟨k,x⟩ hp;unfold Z5b;cases hf:findK mb k with
 |none=>simp[hf]
 |some y=>simp only[hf];exact h k x y (Q3g hs hp) hf
theorem alike_self(N:Nat):∀a:Tr,a.size<=N->a.ok->Q2d a a=true:=by
 induction N with
 |zero=>intro a h;have:=Q1l a;omega
 |succ N ih=>
  intro a hN ho;cases a with
  |map m=>
   simp only[Q2d];refine Z6l ho.sorted fun k x y h1 h2=>?_;rw[h1]at h2;cases h2;have hm:=Q0o h1;have:=Q2s hm;simp only[Tr.size]at hN;exact ih _ om (ho.field hm)
  |_=>simp[Q2d,Tr.isMap,Tr.isList]
theorem X5x(N:Nat):∀a b:Tr,a.size<=N->a.ok->b.ok->Q2d a b=true->Q2d a (Q0d a b)=true:=by
 induction N with
 |zero=>intro a b h;have:=Q1l a;omega
 |succ N ih=>
  intro a b hN ha hb hal;cases a with
  |map ma=>
   cases b with
   |map mb=>
    simp only[Q0d,Q2d]at hal⊢;refine Z6l ha.sorted fun k x y h1 h2=>?_;have hm:=Q0o h1;have hsz:=Q2s hm;simp only[Tr.size]at hN;rw[Q7p ha.sorted hb.sorted,h1]at h2;cases hf:findK mb k with
    |none=>rw[hf]at h2;simp at h2;subst h2;exact alike_self _ _ (Nat.le_refl _) (ha.field hm)
    |some u=>
     rw[hf]at h2;simp at h2;subst h2;exact ih _ _ om (ha.field hm) (hb.field (Q0o hf)) (Q5a hal h1 hf)
   |_=>simp[Q2d]at hal
  |_=>simpa[Q0d]using hal
theorem X6h{m:KT}:Q7f m=true<->∀p∈m,Q1i p.2=true:=by
 induction m with
 |nil=>simp[Q7f]
 |cons p m ih=>obtain⟨k,t⟩:=p;simp only[Q7f,Bool.and_eq_true,ih,mem_cons];exact⟨fun h p hp=>hp.elim (fun e=>e▸h.1) (h.2 p),fun h=>⟨h _ (.inl rfl),fun p hp=>h p (.inr hp)⟩⟩
theorem X0z(N:Nat):∀a b:Tr,a.size<=N->a.ok->b.ok->Q1i a=true->Q1i b=true->Q1i (Q0d a b)=true:=by
 induction N with
 |zero=>intro a b h;have:=Q1l a;omega
 |succ N ih=>
  intro a b hN ha hb na nb;cases a with
  |map ma=>
   cases b with
   |map mb=>
    have ho:=Z1q _ _ ha hb;simp only[Q0d,Q1i]at na nb ho⊢;rw[X6h]at na nb⊢;rintro⟨k,t⟩ hp;have hf:=Q3g ho.sorted hp;rw[Q7p ha.sorted hb.sorted]at hf;cases h1:findK ma k with
    |none=>
     cases h2:findK mb k with
     |none=>rw[h1,h2]at hf;simp at hf
     |some u=>rw[h1,h2]at hf;simp at hf;subst hf;exact nb _ (Q0o h2)
    |some x=>
     have hm:=Q0o h1;have hsz:=Q2s hm;simp only[Tr.size]at hN;cases h2:findK mb k with
     |none=>rw[h1,h2]at hf;simp at hf;subst hf;exact na _ hm
     |some u=>rw[h1,h2]at hf;simp at hf;subst hf;exact ih _ _ om (ha.field hm) (hb.field (Q0o h2)) (na _ hm) (nb _ (Q0o h2))
   |_=>simpa[Q0d]using nb
  |_=>simpa[Q0d]using nb
theorem Z7l:∀{m:KT} (k:BA) (t:Tr),Q0n m->Q0p (insK m k t)+osz (findK m k)=Q0p m+t.size
 |[],k,t,_=>by simp[insK,findK,Q0p,osz]
 |(a,u)::m,k,t,hs=>by
  unfold insK;rw[Q0k];by_cases h1:klt a k=true
  ·have hne:a≠k:=Q7a h1;have ih:=Z7l k t (pairwise_cons.1 hs).2;simp only[h1,if_true,hne,if_false,Q0p];omega
  ·by_cases h2:a=k
   ·simp only[h1,h2,if_true,Q0p,osz];simp only[h2]at h1;simp[h1,Q0p];omega
   ·have hk:findK m k=none:=Q7q fun p hp=>Q2g ((Q5r (fun e=>h2 e.symm)).resolve_right (by rw[Bool.not_eq_true]at h1;simp[h1])) ((pairwise_cons.1 hs).1 p hp);simp only[h1,h2,if_false,Q0p,hk,osz];simp[Q0p];omega
theorem Z5q(N:Nat)(ih:∀a b:Tr,a.size<=N->a.ok->b.ok->(Q0d a b).size<=a.size+b.size){ma:KT}(hN:Q0p ma<=N)(ha:∀p∈ma,Tr.ok p.2):∀(out mb:KT),Q0n out->Q0n mb->(∀p∈mb,Tr.ok p.2)->(∀p∈mb,findK out p.1=findK ma p.1)->Q0p (Q1x ma out mb)<=Q0p out+Q0p mb
 |out,[],_,_,_,_=>by simp[Q1x,Q0p]
 |out,(k,x)::mb,ho,hb,hok,hf=>by
  have hc:=pairwise_cons.1 hb;have h1:=Z5q N ih hN ha (insK out k (match findK ma k with|some w=>Q0d w x|none=>x)) mb (Q2v ho _ _).1 hc.2 (fun p hp=>hok p (mem_cons_of_mem _ hp)) (fun p hp=>by
   rw[Q4y _ _ _ ho,if_neg (fun e=>by have:=hc.1 p hp;rw[e,Q2r]at this;cases this)];exact hf p (mem_cons_of_mem _ hp))
  have h2:=Z7l k (match findK ma k with|some w=>Q0d w x|none=>x) ho;rw[hf (k,x) (mem_cons_self ..)]at h2;simp only[Q1x,Q0p];cases hw:findK ma k with
  |none=>simp only[hw,osz]at h1 h2⊢;omega
  |some w=>
   have hm:=Q0o hw;have h3:=ih w x (Nat.le_trans (Q2s hm) hN) (ha _ hm) (hok (k,x) (mem_cons_self ..));simp only[hw,osz]at h1 h2⊢;omega
theorem size_merge(N:Nat):∀a b:Tr,a.size<=N->a.ok->b.ok->(Q0d a b).size<=a.size+b.size:=by
 induction N with
 |zero=>intro a b h;have:=Q1l a;omega
 |succ N ih=>
  intro a b hN ha hb;cases a with
  |map ma=>
   cases b with
   |map mb=>
    simp only[Q0d,Tr.size]at hN⊢;have:=Z5q N ih om (fun p hp=>ha.field hp) ma mb ha.sorted hb.sorted (fun p hp=>hb.field hp) (fun p _=>rfl);omega
   |_=>simp[Q0d,Tr.size]<;>omega
  |_=>simp only[Q0d];omega
end
section
def Z9a(N:Nat):Prop:=∀(J:Gh) (v:V6) (t:Tr) (w:World),t.bulk<N->J.In w->VIs J v t.iv->Calls prog 137 #[v.agg] w (Got Nix J w (.bool (Q1c t)))
theorem orderly_0(I:Gh)(k n:Int)(h2:(k==2)=false)(h3:(k==3)=false)(h5:(k==5)=false)(h6:(k==6)=false)(f:Nat)(s:BA)(a1:OA)(n1 c1:Nat)(a2:OA)(n2 c2:Nat)(w:World)(hi:I.In w):
  Calls prog 137 #[.agg (L0e k n f s a1 n1 c1 a2 n2 c2).toArray] w (Got Nix I w (.bool true)):=by
 go_enter func137,ntmps137;go_wp2_with fail
 go_ret;exact⟨rfl,(Step.refl hi).alloc _⟩
theorem orderly_2(I:Gh)(n:Int)(f:Nat)(s:BA)(a1:OA)(n1 c1:Nat)(a2:OA)(n2 c2:Nat)(w:World)(hi:I.In w):
  Calls prog 137 #[.agg (L2l n f s a1 n1 c1 a2 n2 c2).toArray] w (Got Nix I w (.bool (decide (-9007199254740992<=n)&&decide (n<=9007199254740992)))):=by
 by_cases h1:-9007199254740992<=n
 ·have d1:decide (-9007199254740992<=n)=true:=decide_eq_true h1;go_enter func137,ntmps137;go_wp2_with fail
  go_ret;exact⟨by simp[d1],(Step.refl hi).alloc _⟩
 ·have d1:decide (-9007199254740992<=n)=false:=decide_eq_false h1;go_enter func137,ntmps137;go_wp2_with fail
  go_ret;exact⟨by simp[d1],(Step.refl hi).alloc _⟩
theorem orderly_3(I:Gh)(n:Int)(f:Nat)(s:BA)(a1:OA)(n1 c1:Nat)(a2:OA)(n2 c2:Nat)(w:World)(hi:I.In w):
  Calls prog 137 #[.agg (L2k n f s a1 n1 c1 a2 n2 c2).toArray] w (Got Nix I w (.bool (feq f f))):=by
 go_enter func137,ntmps137;go_wp2_with fail
 go_ret;exact⟨rfl,(Step.refl hi).alloc _⟩
theorem z1e{P:Prop}(h:P:=by
 have HA:=Hd ha;have H2:=Hd h2;have HB:=Hd hb;clear ha h2 hb;go_enter func137,ntmps137;go_wp2_with fail
 go_loopg [30] l.length (fun g y wr=>∃i:Nat,y=.int .i64 (i:Nat)/\i<=l.length/\g=l.length -i/\Step Nix I I w wr/\Hid ((l.take i).all Q1c=true))
 case atStart=>exact⟨0,rfl,Nat.zero_le _,rfl,(Step.refl hi).alloc _,Hd rfl⟩
 case round=>
  obtain⟨i,rfl,hil,hg,st,hall⟩:=hrel;by_cases hlt:i<l.length
  ·obtain⟨u,hu⟩:∃u,l[i]?=some u:=gx hlt;obtain⟨v,hv⟩:∃v,vs[i]?=some v:=gx b1l;obtain⟨b2,o2,rfl,hs2⟩:∃b o,a2=some ⟨b,o,none⟩/\Six I b (o+i*6) v:=by
    rcases H2.out with⟨_,e⟩|⟨b,o,e,h⟩
    ·rw[e]at hv;simp at hv
    ·exact⟨b,o,e,h i v hv⟩
   have d:=hs2.at st.inw;have hV:=HA.out.get hv hu;have hBu:=HB.out u (List.mem_of_getElem? hu);have q1:=heap_alloc_new wr (.cells L0c.toArray 35);have q2:=setRow_heap _ wr.heap.size _ (L0a v).toArray 35 (0,0) q1;have hsz:=st.size;have st1:=(st.alloc (.cells L0c.toArray 35)).setRow (st.inw.none (Nat.le_refl _)) (fun hb=>absurd hb om) (L0a v).toArray;have S1:=Hd st1;clear st1;have HX:=Hd (nd3 hg hu hV);clear hu hv hs2 hg st hV;go_wp2_with (first|refine Q3h rf _ rf b2 (o2+i*6) rf _ _ _ _ _ _ d ?_|refine wpList_store_row rf 35 _ _ rf wr.heap.size (L0a v).toArray rf rf 35 _ q1 sz35 rfl (one6 rfl rfl rfl rfl rfl rfl) ?_|refine wpList_load_row rf 35 _ rf wr.heap.size rf 35 _ _ _ q2 underlying35 rfl sz35 ?_)
   refine(HC I v u _ hBu S1.out.inw HX.out.2.2).mono ?_;rintro e w2 ⟨rfl,st2⟩;have S2:=Hd (S1.out.trans0 st2);clear q1 q2;clear st2 d;cases ho:Q1c u with
   |true=>
    go_wp2_with fail
    go_roundg (l.length -(i+1))
    case measure=>have:=HX.out.1;omega
    case rel=>exact⟨i+1,rfl,by omega,rfl,S2.out,Hd b2g⟩
   |false=>
    go_wp2_with fail
    go_ret;refine⟨?_,S2.out⟩;have:l.all Q1c=false:=by
     cases hA:l.all Q1c with
     |false=>rfl
     |true=>have:=List.all_eq_true.1 hA u (List.mem_of_getElem? HX.out.2.1);rw[ho]at this;cases this
    rw[this];rfl
  ·obtain rfl:i=l.length:=by omega
   have ST:=Hd st;clear hg st;go_wp2_with fail
   exact e1i):P:=h
theorem orderly_5(N:Nat)(HC:Z9a N)(I:Gh)(n:Int)(f:Nat)(s:BA)(a1:OA)(n1 c1:Nat)(a2:OA)(c2:Nat)(vs:List V6)(l:List Tr)(w:World)(hi:I.In w)(hm:l.length<=2 ^ 32)(h2:Q6n I a2 vs)(ha:All2 (fun v u=>VIs I v u.iv) vs l)(hb:∀u,u∈l->u.bulk<N):
  Calls prog 137 #[.agg (L2j n f s a1 n1 c1 a2 l.length c2).toArray] w (Got Nix I w (.bool (l.all Q1c))):=by
 exact z1e
theorem orderly_6(N:Nat)(HC:Z9a N)(I:Gh)(n:Int)(f:Nat)(s:BA)(a1:OA)(n1 c1:Nat)(a2:OA)(c2:Nat)(vs:List V6)(l:List Tr)(w:World)(hi:I.In w)(hm:l.length<=2 ^ 32)(h2:Q6n I a2 vs)(ha:All2 (fun v u=>VIs I v u.iv) vs l)(hb:∀u,u∈l->u.bulk<N):
  Calls prog 137 #[.agg (L1i n f s a1 n1 c1 a2 l.length c2).toArray] w (Got Nix I w (.bool (l.all Q1c))):=by
 exact z1e
theorem Z6o:∀N,N<=2 ^ 32->Z9a N
 |0,_=>fun J v t w hx _ _=>absurd hx (Nat.not_lt_zero _)
 |N+1,hN=>fun J v t w hx hi hv=>by
  have HC:=Z6o N om;have hk:=X1v t;have hlen:=Z0e t;have hb:∀u,u∈t.kids->u.bulk<N:=fun u hu=>by have:=Z1i hu;omega
  obtain⟨a1,c1,a2,c2,vs,rfl,h1,hn,h2,ha,_⟩:=hv.kids;rw[hk];cases t with
  |list l=>exact orderly_5 N HC J _ _ _ a1 _ c1 a2 c2 vs l w hi b1n h2 ha hb
  |map m=>exact orderly_6 N HC J _ _ _ a1 _ c1 a2 c2 vs (m.map (fun p:BA×Tr=>p.2)) w hi b1n h2 ha hb
  |int n=>simp only[Tr.kids,all_nil,Bool.and_true];exact orderly_2 J n _ _ a1 _ c1 a2 _ c2 w hi
  |flt n=>simp only[Tr.kids,all_nil,Bool.and_true];exact orderly_3 J _ n _ a1 _ c1 a2 _ c2 w hi
  |_=>exact orderly_0 J _ _ rfl rfl rfl rfl _ _ a1 _ c1 a2 _ c2 w hi
theorem orderly_x{I:Gh}{v:V6}{t:Tr}(hv:VIs I v t.iv)(hx:t.bulk<2 ^ 32)(w:World)(hi:I.In w):Calls prog 137 #[v.agg] w (Got Nix I w (.bool (Q1c t))):=
 Z6o (2 ^ 32) (Nat.le_refl _) I v t w hx hi hv
end
end Go.Proofs.YtbmklgemmjgjfaaGreat
