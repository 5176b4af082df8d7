/- Part 17: Ins. -/
import Derived.Lib.Overlaps
import Derived.Lib.AppendZeros
import Derived.Laws.Externs
import Derived.Test.YtbmklgemmjgjfaaGreatT15
namespace Go.Proofs.YtbmklgemmjgjfaaGreat
open Go.RowKit Go.Maps Tryz
set_option linter.unusedVariables false
set_option linter.unusedSimpArgs false
set_option maxRecDepth 100000
set_option maxHeartbeats 4000000
section
variable{w':World}{v':Value}{Q:EAW}{K:AW}{a:Act}{o:Oper}{P:Program}
theorem Z4x(w:World)(d s:Operand)(t t':TypeId)
  (ho:o.op=.call {callee:=.builtin .copy,args:=#[d,s],argTypes:=#[t,t']})(v u:Value)(hd:a.eval d=v)(hs:a.eval s=u)
  (hr:(Builtin.copy_ #[t,t'] o.type #[v,u]).run P w=.ok v' w')(h:K (a.put o.dst v') w'):o.wp P a w K Q:=by
 unfold Oper.wp execOp;simp only[ho,resolve,invoke,builtin,Sem.run_bind,Sem.run_pure,Result.andThen_ok,List.map_toArray,List.map_cons,List.map_nil,hd,hs,hr];exact h
variable{ops:Array Oper}
theorem Q3j(w:World){rest:List Oper}(hgd:o.guard=none)(d s:Operand)(t t':TypeId)
  (ho:o.op=.call {callee:=.builtin .copy,args:=#[d,s],argTypes:=#[t,t']})(v u:Value)(hd:a.eval d=v)(hs:a.eval s=u)
  (hr:(Builtin.copy_ #[t,t'] o.type #[v,u]).run P w=.ok v' w')(h:wpList P ops Q rest (a.put o.dst v') w'):wpList P ops Q (o::rest) a w:=
 wpList_plain hgd fun _ hK=>Z4x w d s t t' ho v u hd hs hr (hK _ _ h)
theorem Q6f{w:World}{E:Prop}
  (hg:o.guard=none)(d x:Operand)(dT sT:TypeId)(hop:o.op=Op.call {callee:=Callee.builtin Builtin.copy,args:=#[d,x],argTypes:=#[dT,sT]})
  (v u:Value)(hd:a.eval d=v)(hx:a.eval x=u)(hr:(Builtin.copy_ #[dT,sT] o.type #[v,u]).run P w=.ok v' w')(hK:K (a.put o.dst v') w'):
  if Region.wanted o (yielded ops a.tmps)=true then Oper.wp P o a w K Q else E:=by
 have hw:Region.wanted o (yielded ops a.tmps)=true:=by simp[Region.wanted,hg]
 rw[if_pos hw];exact Z4x w d x dT sT hop v u hd hx hr hK
theorem z0w{P:Prop}(h:P:=by
 go_wp2_with (refine Lib.wpList_append_run _ rfl _ _ _ _ rfl _ _ rfl rfl _ _ hrun2 ?_)
 all_goals go_ret
 all_goals exact⟨v',rfl,KP.out⟩):P:=h
theorem insPe_end(n:Nat)(v:Value)(xs new:List Value)(vb vc:Nat)(w:World)(hown:w.ownsRow 0 358 4 v n xs)(hn:n<2 ^ 30)(hnew:new.length=4)(h1:∀u∈new,u.oneCell'=true)(hv:w.heap[vb]?=some (.cells new.toArray 358 (0,0))):
  Calls prog 252 (L2q v n vb vc).toArray w fun e w'=>∃v',e=.returned v'/\w'.ownsRow 0 358 4 v' (n+1) (xs++new)/\w.grownBy w' v.ownBlock/\(v'.ownBlock=v.ownBlock\/v'.ownBlock=some w.heap.size):=by
 obtain⟨A,c,rfl⟩:=Q6e hown;obtain⟨i,g1,g2,g3,g4⟩:=Q4v.parts;have hr:Q4n w w.heap.size 4 (some ⟨vb,0,none⟩) 1 new:=⟨by rw[hnew,Nat.one_mul],fun _=>⟨_,rfl,Q1r hv,fun j u hu=>by
  have ha:(Addr.add ⟨vb,0,none⟩ j)=⟨vb,j,none⟩:=by unfold Addr.add;split<;>simp_all
  rw[ha,Q0e hv j];simpa using hu⟩⟩
 obtain⟨v',w',hrun,k1,k2,k3⟩:=Q7h (P:=prog) w 0 308 308 358 i _ 4 32 underlying308 g1 g2 g3 g4 rfl b0t _ n xs hown _ (some ⟨vb,0,none⟩) 1 vc new hr h1 b0q om (Nat.zero_le _);have hrun2:=(Z4g w 308 250 308 358 358 underlying308 underlying250 A n c (.slice (some ⟨vb,0,none⟩) 1 vc)).trans hrun;generalize (Value.slice A n c).ownBlock=ob at k2 k3⊢;have KP:=Hd (nd3 k1 k2 k3);clear k1 k2 k3 hrun hr hown;go_enter func252,ntmps252;exact z0w
theorem z0v{P:Prop}(h:P:=by
 rw[Q0e hg j];rw[<-ht,List.getElem?_take]at hu;split at hu
 ·simpa using hu
 ·cases hu):P:=h
theorem z0x{P:Prop}(h:P:=by
 rw[hROW,Array.size_append,Array.size_append,hz1,hz1,List.size_toArray,hp,<-Nat.add_mul,<-Nat.add_mul];congr 1;omega):P:=h
theorem insPe_grow(n i g c:Nat)(xs new:List Value)(vb vc:Nat)(w:World)(cur:Array Value)(hg:w.heap[g]?=some (.cells cur 358 (0,0)))(hc:cur.size=c*4)(ht:cur.toList.take (n*4)=xs)(hi:i<n)(hnc:n<=c)(hroom:c<n+1)(hn:n<2 ^ 30)
  (hnew:new.length=4)(h1:∀u∈new,u.oneCell'=true)(hx1:∀u∈xs,u.oneCell'=true)(hv:w.heap[vb]?=some (.cells new.toArray 358 (0,0))):
  Calls prog 252 (L2g g n c i vb vc).toArray w fun e w'=>∃v',e=.returned v'/\w'.ownsRow 0 358 4 v' (n+1) (xs.take (i*4)++new++xs.drop (i*4))/\w.grownBy w' (some g)/\(v'.ownBlock=some g\/v'.ownBlock=some w.heap.size):=by
 obtain⟨i0,hi0,hz0,hzs,hzb⟩:=Q4v.parts;have hxl:xs.length=n*4:=by rw[<-ht,List.length_take,Array.length_toList,hc];exact Nat.min_eq_left (Nat.mul_le_mul_right _ hnc)
 have hsz:(prog.info? 358).map (·.size)=some 4:=Q4v.sz;have hgw:=Q1r hg;have hvw:=Q1r hv;have hcell:∀j u,xs[j]?=some u->w.cell? ⟨g,j,none⟩=some u:=fun j u hu=>by
  exact z0v
 have hold:(Builtin.firstCells i0.size i (.slice (some ⟨g,0,none⟩) i c)).run prog w.drew=.ok (xs.take (i*4)).toArray w.drew:=by
  rw[hzs];exact run_firstCells_some w.drew 4 i ⟨g,0,none⟩ i c (xs.take (i*4)) b1w (fun j u hj=>by
   have ha:(Addr.add ⟨g,0,none⟩ j)=⟨g,j,none⟩:=by unfold Addr.add;split<;>simp_all
   rw[ha];rw[List.getElem?_take]at hj;split at hj
   ·exact hcell j u hj
   ·cases hj)
 have hkk:(n:Int)+1 -(i:Int)=((n+1 -i:Nat):Int):=by omega
 have hik:i+(n+1 -i)=n+1:=by omega
 have hrz:∀ty,(Builtin.append_ #[308,3] ty #[.slice (some ⟨g,0,none⟩) i c,.int .i64 ((n:Int)+1 -(i:Int))]).run prog w=
   .ok (.slice (some ⟨w.heap.size,0,none⟩) (n+1) (grownCap w (n+1) c 358)) (w.drew.alloc (.cells ((xs.take (i*4)).toArray++Builtin.zeroCells (.agg #[pn,pn,pn,pn]:Value).cells (n+1 -i)++Builtin.zeroCells (.agg #[pn,pn,pn,pn]:Value).cells (grownCap w (n+1) c 358 -(n+1))) 358)):=fun ty=>by
  have h:=Lib.run_append_grow_zeros w 308 3 ty 358 i0 _ .i64 .i64 underlying308 underlying3 hi0 hz0 (some ⟨g,0,none⟩) i c (xs.take (i*4)) hold (n+1 -i) om om om om (by rw[hzb];omega) (by rw[hzb,hik];exact growslice_fits hroom om);rw[hik]at h;rw[hkk];exact h
 obtain⟨G,hG⟩:∃G,G=grownCap w (n+1) c 358:=⟨_,rfl⟩
 have hGn:n+1<=G:=by rw[hG];exact grownCap_ge w _ _ _
 have hG63:G<=maxLen:=by rw[hG];exact grownCap_le_maxLen w (n+1) c 358 b0q
 obtain⟨ROW,hROW⟩:∃ROW:Array Value,ROW=(xs.take (i*4)).toArray++Builtin.zeroCells (.agg #[pn,pn,pn,pn]:Value).cells (n+1 -i)++Builtin.zeroCells (.agg #[pn,pn,pn,pn]:Value).cells (G -(n+1)):=⟨_,rfl⟩
 rw[<-hG]at hrz;rw[<-hROW]at hrz;have hp:(xs.take (i*4)).length=i*4:=by rw[List.length_take];omega
 have hRl:ROW.size=G*4:=by
  have hz1:∀q,(Builtin.zeroCells (.agg #[pn,pn,pn,pn]:Value).cells q).size=q*4:=fun q=>by simp[Builtin.zeroCells,Value.cells]
  exact z0x
 have hRt:ROW.toList.take (i*4)=xs.take (i*4):=by
  rw[hROW,Array.toList_append,Array.toList_append,List.append_assoc];exact List.take_left' hp
 obtain⟨W1,hW1⟩:∃W1,W1=w.drew.alloc (.cells ROW 358):=⟨_,rfl⟩
 rw[<-hW1]at hrz;have hN:W1.heap[w.heap.size]?=some (.cells ROW 358 (0,0)):=by rw[hW1];exact Q1b rfl
 have hO:∀k,k<w.heap.size->W1.heap[k]?=w.heap[k]?:=fun k hk=>by rw[hW1];exact Q0m hk
 have hdl:(xs.drop (i*4)).length=(n -i)*4:=by rw[List.length_drop,hxl,Nat.sub_mul]
 have hcpA:∀(W:World),W.heap=W1.heap->∀ty dl dc,dl=n+1 -i->(Builtin.copy_ #[308,250] ty #[.slice (some ⟨w.heap.size,i*4,none⟩) dl dc,.slice (some ⟨vb,0,none⟩) 1 vc]).run prog W=.ok (goInt 1) (W.setRow w.heap.size (ROW.toList.take (i*4)++new++ROW.toList.drop (i*4+new.length)).toArray):=fun W hW ty dl dc hdl=>
  Q4g W _ _ ty 358 w.heap.size (i*4) dl dc ⟨vb,0,none⟩ 1 vc ROW 358 new 1 4 underlying308 hsz (by rw[hW];exact hN) b2p (by rw[hnew,Nat.one_mul])
   (fun j u hu=>by
    have ha:(Addr.add ⟨vb,0,none⟩ j)=⟨vb,j,none⟩:=by unfold Addr.add;split<;>simp_all
    rw[ha,Q0e (show W.heap[vb]?=_ by rw[hW];exact(hO vb hvw).trans hv) j];simpa using hu)
   (by rw[hnew,hRl,<-Nat.succ_mul];exact Nat.mul_le_mul_right _ om) h1
 obtain⟨R2,hR2⟩:∃R2:List Value,R2=ROW.toList.take (i*4)++new++ROW.toList.drop (i*4+new.length):=⟨_,rfl⟩
 have hR2l:R2.length=G*4:=by
  rw[hR2];simp only[List.length_append,List.length_take,List.length_drop,Array.length_toList,hRl,hnew];have:i*4+4<=G*4:=by rw[<-Nat.succ_mul];exact Nat.mul_le_mul_right _ om
  omega
 have hcpB:∀(W:World),W.heap=(W1.setRow w.heap.size R2.toArray).heap->∀ty dl dc sc,dl=n -i->(Builtin.copy_ #[308,308] ty #[.slice (some ⟨w.heap.size,(i+1)*4,none⟩) dl dc,.slice (some ⟨g,i*4,none⟩) (n -i) sc]).run prog W=.ok (goInt ((n -i:Nat):Int)) (W.setRow w.heap.size (R2.take ((i+1)*4)++xs.drop (i*4)++R2.drop ((i+1)*4+(xs.drop (i*4)).length)).toArray):=fun W hW ty dl dc sc hdl2=>by
  have:=Q4g (P:=prog) W 308 308 ty 358 w.heap.size ((i+1)*4) dl dc ⟨g,i*4,none⟩ (n -i) sc R2.toArray 358 (xs.drop (i*4)) (n -i) 4 underlying308 hsz (by rw[hW];exact setRow_heap _ _ _ _ _ _ hN) (by show n -i=min (n -i) dl;omega) hdl
   (fun j u hu=>by
    have ha:(Addr.add ⟨g,i*4,none⟩ j)=⟨g,i*4+j,none⟩:=by unfold Addr.add;split<;>simp_all
    rw[ha];rw[List.getElem?_drop]at hu;have h0:W.heap[g]?=w.heap[g]?:=by rw[hW,setRow_other _ _ _ _ om];exact hO g hgw
    have:=hcell _ u hu;simp only[World.cell?,h0]at this⊢;exact this)
   b2l (fun u hu=>hx1 u (List.mem_of_mem_drop hu))
  exact this
 have key:=X8s ROW.toList xs new (i*4) 4 ((n -i)*4) b1q hnew hRt b2e;rw[<-hR2,show i*4+4=(i+1)*4 by rw[Nat.succ_mul],show(i+1)*4+(n -i)*4=(n+1)*4 by rw[<-Nat.add_mul];congr 1;omega]at key;rw[<-hR2]at hcpA;obtain⟨R3,hR3⟩:∃R3:List Value,R3=R2.take ((i+1)*4)++xs.drop (i*4)++R2.drop ((i+1)*4+(xs.drop (i*4)).length):=⟨_,rfl⟩
 rw[<-hR3]at hcpB key;clear hR3;have KEY:=Hd (nd4 key hRl hN hO);have hE:(w.drew.alloc (.cells ROW 358)).heap=W1.heap:=by rw[hW1]
 clear hkk hik hold hROW hG hRt key hcell hdl hR2 hR2l hRl hN;subst hW1;have hw1:IntKind.i64.wrap ((i:Int)+1)=(i:Int)+1:=by rw[IntKind.wrap_i64];omega
 have hz2:¬((i:Int)=(n:Int)):=by omega
 have hz3:(c:Int)<(n:Int)+1:=by omega
 have hb1:(0:Int)<=(i:Int)+1:=by omega
 have htn:((i:Int)+1).toNat=i+1:=by omega
 have hb3:(i:Int)<=(n:Int):=by omega
 have hin:i<=n:=by omega
 have hGi:¬(G=i):=by omega
 have hGim:¬(G=i+1):=by omega
 have hci:¬(c=i):=by omega
 go_enter func252,ntmps252;go_wp2_with (first|at_builtin;refine Lib.wpList_append_run _ rfl _ _ _ _ rfl _ _ rfl rfl _ _ (hrz _) ?_|refine Q3j _ rfl _ _ 308 250 rfl _ _ rfl rfl (hcpA _ rf _ _ _ om) ?_|refine Q3j _ rfl _ _ 308 308 rfl _ _ rfl rfl (hcpB _ rf _ _ _ _ om) ?_)
 go_region_law (refine Q6f rfl _ _ 308 308 rfl (.slice (some ⟨w.heap.size,(i+1)*4,none⟩) (n -i) (G -(i+1))) (.slice (some ⟨g,i*4,none⟩) (n -i) (c -i)) b0v b0v (hcpB _ rf _ _ _ _ om) ?_);go_wp2_with fail
 go_ret;refine⟨_,rfl,⟨?_,.inr ⟨w.heap.size,G,_,rfl,Nat.zero_le _,setRow_heap _ _ _ _ _ _ (setRow_heap _ _ _ _ _ _ (Q1b rfl)),hGn,hG63,?_,KEY.out.1.1⟩⟩,⟨rfl,rfl,rfl,?_,fun k hk _=>?_⟩,.inr rfl⟩
 ·rw[List.length_append,List.length_append,List.length_take,List.length_drop,hnew,hxl];have:i*4<=n*4:=Nat.mul_le_mul_right _ om;rw[Nat.min_eq_left this];omega
 ·exact e1d
 ·simp
 ·exact(setRow_other _ _ _ _ om).trans ((setRow_other _ _ _ _ om).trans (Q0m hk))

theorem X4v(n i g c:Nat)(xs new:List Value)(vb vc:Nat)(w:World)(cur:Array Value)(hg:w.heap[g]?=some (.cells cur 358 (0,0)))(hc:cur.size=c*4)(ht:cur.toList.take (n*4)=xs)(hi:i<n)(hroom:n+1<=c)(hcm:c<=maxLen)(hn:n<2 ^ 30)
  (hnew:new.length=4)(h1:∀u∈new,u.oneCell'=true)(hx1:∀u∈xs,u.oneCell'=true)(hv:w.heap[vb]?=some (.cells new.toArray 358 (0,0)))(hvg:vb≠g):
  Calls prog 252 (L2g g n c i vb vc).toArray w fun e w'=>∃v',e=.returned v'/\w'.ownsRow 0 358 4 v' (n+1) (xs.take (i*4)++new++xs.drop (i*4))/\w.grownBy w' (some g)/\(v'.ownBlock=some g\/v'.ownBlock=some w.heap.size):=by
 have hxl:xs.length=n*4:=by rw[<-ht,List.length_take,Array.length_toList,hc];exact Nat.min_eq_left (Nat.mul_le_mul_right _ om)
 have hsz:(prog.info? 358).map (·.size)=some 4:=Q4v.sz;have hcell:∀j u,xs[j]?=some u->w.cell? ⟨g,j,none⟩=some u:=fun j u hu=>by
  exact z0v
 have hov:∀(W:World) lb cb,W.heap=w.heap->(callFunc 273 #[.slice (some ⟨vb,0,none⟩) 1 vc,.slice (some ⟨g,(i+1)*4,none⟩) lb cb]).run prog W=.ok (.value (.bool false)) W:=fun W lb cb hW=>by
  rw[run_callFunc_extern func273 kr kr kr (e:=Extern.SlicesOverlaps.overlaps #[250,250] #[4]) kr,
   Lib.run_overlaps_apart W 250 4 358 underlying250 4 (fun w0=>by obtain⟨i0,q0,_,q2,_⟩:=Q4v.parts;simp[Go.sizeOf,typeInfo,q0,q2]) ⟨vb,0,none⟩ ⟨g,(i+1)*4,none⟩ 1 vc lb cb hvg 358 358 4 (c*4)
    (by simp only[World.shape?,hW,hv,List.size_toArray,hnew]) (by simp only[World.shape?,hW,hg,hc]) (Nat.ne_of_gt (Nat.mul_pos om b0t)) b2j b2j]
  rfl
 have hdl:(xs.drop (i*4)).length=(n -i)*4:=by rw[List.length_drop,hxl,Nat.sub_mul]
 obtain⟨R2,hR2⟩:∃R2:List Value,R2=cur.toList.take ((i+1)*4)++xs.drop (i*4)++cur.toList.drop ((i+1)*4+(xs.drop (i*4)).length):=⟨_,rfl⟩
 have hcpA:∀(W:World),W.heap=w.heap->∀ty dl dc sl sc,dl=n -i->sl=n+1 -i->(Builtin.copy_ #[308,308] ty #[.slice (some ⟨g,(i+1)*4,none⟩) dl dc,.slice (some ⟨g,i*4,none⟩) sl sc]).run prog W=.ok (goInt ((n -i:Nat):Int)) (W.setRow g R2.toArray):=fun W hW ty dl dc sl sc e1 e2=>by
  rw[hR2];exact Q4g W 308 308 ty 358 g ((i+1)*4) dl dc ⟨g,i*4,none⟩ sl sc cur 358 (xs.drop (i*4)) (n -i) 4 underlying308 hsz (by rw[hW];exact hg) (by show n -i=min sl dl;omega) hdl
   (fun j u hu=>by
    have ha:(Addr.add ⟨g,i*4,none⟩ j)=⟨g,i*4+j,none⟩:=by unfold Addr.add;split<;>simp_all
    rw[ha];rw[List.getElem?_drop]at hu;have:=hcell _ u hu;simp only[World.cell?,hW]at this⊢;exact this)
   (by rw[hdl,hc,<-Nat.add_mul];exact Nat.mul_le_mul_right _ om) (fun u hu=>hx1 u (List.mem_of_mem_drop hu))
 have hR2l:R2.length=c*4:=by
  rw[hR2];simp only[List.length_append,List.length_take,List.length_drop,Array.length_toList,hc,hdl];have:(i+1)*4+(n -i)*4<=c*4:=by rw[<-Nat.add_mul];exact Nat.mul_le_mul_right _ om
  rw[List.length_drop]at hdl;omega
 obtain⟨R3,hR3⟩:∃R3:List Value,R3=R2.take (i*4)++new++R2.drop (i*4+new.length):=⟨_,rfl⟩
 have hcpB:∀(W:World),W.heap=(w.setRow g R2.toArray).heap->∀ty dl dc,dl=n+1 -i->(Builtin.copy_ #[308,250] ty #[.slice (some ⟨g,i*4,none⟩) dl dc,.slice (some ⟨vb,0,none⟩) 1 vc]).run prog W=.ok (goInt 1) (W.setRow g R3.toArray):=fun W hW ty dl dc e1=>by
  rw[hR3];exact Q4g W 308 250 ty 358 g (i*4) dl dc ⟨vb,0,none⟩ 1 vc R2.toArray 358 new 1 4 underlying308 hsz (by rw[hW];exact setRow_heap _ _ _ _ _ _ hg) b2p (by rw[hnew,Nat.one_mul])
   (fun j u hu=>by
    have ha:(Addr.add ⟨vb,0,none⟩ j)=⟨vb,j,none⟩:=by unfold Addr.add;split<;>simp_all
    rw[ha,Q0e (show W.heap[vb]?=_ by rw[hW,setRow_other _ _ _ _ hvg];exact hv) j];simpa using hu)
   b2k h1
 have key:=X9d cur.toList xs new (i*4) 4 ((n -i)*4) b1q hnew (by rw[<-Nat.add_mul,show i+(n -i)=n by omega];exact ht) b2f;rw[show i*4+4=(i+1)*4 by rw[Nat.succ_mul],show(i+1)*4+(n -i)*4=(n+1)*4 by rw[<-Nat.add_mul];congr 1;omega,<-hR2,<-hR3]at key;have KEY:=Hd (nd5 key hc hcm hg hxl);clear key hR2 hR2l hR3 hcell hdl hc hcm hxl ht;have hw1:IntKind.i64.wrap ((i:Int)+1)=(i:Int)+1:=by rw[IntKind.wrap_i64];omega
 have hz2:¬((i:Int)=(n:Int)):=by omega
 have hz3:¬((c:Int)<(n:Int)+1):=by omega
 have hb1:(0:Int)<=(i:Int)+1:=by omega
 have htn:((i:Int)+1).toNat=i+1:=by omega
 have hb3:(i:Int)<=(n:Int):=by omega
 have hb4:(i:Int)<=(n:Int)+1:=by omega
 have hin:i<=n:=by omega
 have hci:¬(c=i):=by omega
 have hci1:¬(c=i+1):=by omega
 go_enter func252,ntmps252;go_wp2_with (rw[hov _ _ _ rf])
 go_region_law (refine Q6f rfl _ _ 308 308 rfl (.slice (some ⟨g,(i+1)*4,none⟩) (n -i) (c -(i+1))) (.slice (some ⟨g,i*4,none⟩) (n+1 -i) (c -i)) b0v b0v (hcpA _ rf _ _ _ _ _ om om) ?_);go_wp2_with (refine Q3j _ rfl _ _ 308 250 rfl _ _ rfl rfl (hcpB _ rf _ _ _ om) ?_)
 go_ret;refine⟨_,rfl,⟨?_,.inr ⟨g,c,_,rfl,Nat.zero_le _,setRow_heap _ _ _ _ _ _ (setRow_heap _ _ _ _ _ _ KEY.out.2.2.2.1),hroom,KEY.out.2.2.1,?_,KEY.out.1.1⟩⟩,⟨rfl,rfl,rfl,?_,fun k hk hne=>?_⟩,.inl rfl⟩
 ·rw[List.length_append,List.length_append,List.length_take,List.length_drop,hnew,KEY.out.2.2.2.2];have:i*4<=n*4:=Nat.mul_le_mul_right _ om;rw[Nat.min_eq_left this];omega
 ·exact e1d
 ·simp
 ·have hkg:k≠g:=fun e=>hne (by rw[e]);exact(setRow_other _ _ _ _ hkg).trans (setRow_other _ _ _ _ hkg)
theorem insPe_x(n i:Nat)(v:Value)(xs new:List Value)(vb vc:Nat)(w:World)(hown:w.ownsRow 0 358 4 v n xs)(hi:i<=n)(hn:n<2 ^ 30)(hnew:new.length=4)(h1:∀u∈new,u.oneCell'=true)(hx1:∀u∈xs,u.oneCell'=true)
  (hv:w.heap[vb]?=some (.cells new.toArray 358 (0,0)))(hvg:v.ownBlock≠some vb):
  Calls prog 252 (L2q v i vb vc).toArray w fun e w'=>∃v',e=.returned v'/\w'.ownsRow 0 358 4 v' (n+1) (xs.take (i*4)++new++xs.drop (i*4))/\w.grownBy w' v.ownBlock/\(v'.ownBlock=v.ownBlock\/v'.ownBlock=some w.heap.size):=by
 have hl:=hown.1;by_cases he:i=n
 ·subst he;have:=insPe_end i v xs new vb vc w hown hn hnew h1 hv;rwa [<-hl,List.take_length,List.drop_length,List.append_nil]
 ·rcases hown.2 with⟨rfl,rfl⟩|⟨g,c,cur,rfl,_,hg,hnc,hcm,hc,ht⟩
  ·omega
  ·by_cases hr:n+1<=c
   ·exact X4v n i g c xs new vb vc w cur hg hc ht om hr hcm hn hnew h1 hx1 hv (fun e=>hvg (by rw[e];rfl))
   ·exact insPe_grow n i g c xs new vb vc w cur hg hc ht om hnc om hn hnew h1 hx1 hv

theorem insNd_end(n:Nat)(v:Value)(xs new:List Value)(vb vc:Nat)(w:World)(hown:w.ownsRow 0 423 5 v n xs)(hn:n<2 ^ 30)(hnew:new.length=5)(h1:∀u∈new,u.oneCell'=true)(hv:w.heap[vb]?=some (.cells new.toArray 423 (0,0))):
  Calls prog 255 (L2q v n vb vc).toArray w fun e w'=>∃v',e=.returned v'/\w'.ownsRow 0 423 5 v' (n+1) (xs++new)/\w.grownBy w' v.ownBlock/\(v'.ownBlock=v.ownBlock\/v'.ownBlock=some w.heap.size):=by
 obtain⟨A,c,rfl⟩:=Q6e hown;obtain⟨i,g1,g2,g3,g4⟩:=Z1o.parts;have hr:Q4n w w.heap.size 5 (some ⟨vb,0,none⟩) 1 new:=⟨by rw[hnew,Nat.one_mul],fun _=>⟨_,rfl,Q1r hv,fun j u hu=>by
  have ha:(Addr.add ⟨vb,0,none⟩ j)=⟨vb,j,none⟩:=by unfold Addr.add;split<;>simp_all
  rw[ha,Q0e hv j];simpa using hu⟩⟩
 obtain⟨v',w',hrun,k1,k2,k3⟩:=Q7h (P:=prog) w 0 312 312 423 i _ 5 40 underlying312 g1 g2 g3 g4 rfl b0t _ n xs hown _ (some ⟨vb,0,none⟩) 1 vc new hr h1 b0q om (Nat.zero_le _);have hrun2:=(Z4g w 312 311 312 423 423 underlying312 underlying311 A n c (.slice (some ⟨vb,0,none⟩) 1 vc)).trans hrun;generalize (Value.slice A n c).ownBlock=ob at k2 k3⊢;have KP:=Hd (nd3 k1 k2 k3);clear k1 k2 k3 hrun hr hown;go_enter func255,ntmps255;exact z0w
theorem insNd_grow(n i g c:Nat)(xs new:List Value)(vb vc:Nat)(w:World)(cur:Array Value)(hg:w.heap[g]?=some (.cells cur 423 (0,0)))(hc:cur.size=c*5)(ht:cur.toList.take (n*5)=xs)(hi:i<n)(hnc:n<=c)(hroom:c<n+1)(hn:n<2 ^ 30)
  (hnew:new.length=5)(h1:∀u∈new,u.oneCell'=true)(hx1:∀u∈xs,u.oneCell'=true)(hv:w.heap[vb]?=some (.cells new.toArray 423 (0,0))):
  Calls prog 255 (L2g g n c i vb vc).toArray w fun e w'=>∃v',e=.returned v'/\w'.ownsRow 0 423 5 v' (n+1) (xs.take (i*5)++new++xs.drop (i*5))/\w.grownBy w' (some g)/\(v'.ownBlock=some g\/v'.ownBlock=some w.heap.size):=by
 obtain⟨i0,hi0,hz0,hzs,hzb⟩:=Z1o.parts;have hxl:xs.length=n*5:=by rw[<-ht,List.length_take,Array.length_toList,hc];exact Nat.min_eq_left (Nat.mul_le_mul_right _ hnc)
 have hsz:(prog.info? 423).map (·.size)=some 5:=Z1o.sz;have hgw:=Q1r hg;have hvw:=Q1r hv;have hcell:∀j u,xs[j]?=some u->w.cell? ⟨g,j,none⟩=some u:=fun j u hu=>by
  exact z0v
 have hold:(Builtin.firstCells i0.size i (.slice (some ⟨g,0,none⟩) i c)).run prog w.drew=.ok (xs.take (i*5)).toArray w.drew:=by
  rw[hzs];exact run_firstCells_some w.drew 5 i ⟨g,0,none⟩ i c (xs.take (i*5)) b1w (fun j u hj=>by
   have ha:(Addr.add ⟨g,0,none⟩ j)=⟨g,j,none⟩:=by unfold Addr.add;split<;>simp_all
   rw[ha];rw[List.getElem?_take]at hj;split at hj
   ·exact hcell j u hj
   ·cases hj)
 have hkk:(n:Int)+1 -(i:Int)=((n+1 -i:Nat):Int):=by omega
 have hik:i+(n+1 -i)=n+1:=by omega
 have hrz:∀ty,(Builtin.append_ #[312,3] ty #[.slice (some ⟨g,0,none⟩) i c,.int .i64 ((n:Int)+1 -(i:Int))]).run prog w=
   .ok (.slice (some ⟨w.heap.size,0,none⟩) (n+1) (grownCap w (n+1) c 423)) (w.drew.alloc (.cells ((xs.take (i*5)).toArray++Builtin.zeroCells (.agg #[pn,pn,pn,pn,pn]:Value).cells (n+1 -i)++Builtin.zeroCells (.agg #[pn,pn,pn,pn,pn]:Value).cells (grownCap w (n+1) c 423 -(n+1))) 423)):=fun ty=>by
  have h:=Lib.run_append_grow_zeros w 312 3 ty 423 i0 _ .i64 .i64 underlying312 underlying3 hi0 hz0 (some ⟨g,0,none⟩) i c (xs.take (i*5)) hold (n+1 -i) om om om om (by rw[hzb];omega) (by rw[hzb,hik];exact growslice_fits hroom om);rw[hik]at h;rw[hkk];exact h
 obtain⟨G,hG⟩:∃G,G=grownCap w (n+1) c 423:=⟨_,rfl⟩
 have hGn:n+1<=G:=by rw[hG];exact grownCap_ge w _ _ _
 have hG63:G<=maxLen:=by rw[hG];exact grownCap_le_maxLen w (n+1) c 423 b0q
 obtain⟨ROW,hROW⟩:∃ROW:Array Value,ROW=(xs.take (i*5)).toArray++Builtin.zeroCells (.agg #[pn,pn,pn,pn,pn]:Value).cells (n+1 -i)++Builtin.zeroCells (.agg #[pn,pn,pn,pn,pn]:Value).cells (G -(n+1)):=⟨_,rfl⟩
 rw[<-hG]at hrz;rw[<-hROW]at hrz;have hp:(xs.take (i*5)).length=i*5:=by rw[List.length_take];omega
 have hRl:ROW.size=G*5:=by
  have hz1:∀q,(Builtin.zeroCells (.agg #[pn,pn,pn,pn,pn]:Value).cells q).size=q*5:=fun q=>by simp[Builtin.zeroCells,Value.cells]
  exact z0x
 have hRt:ROW.toList.take (i*5)=xs.take (i*5):=by
  rw[hROW,Array.toList_append,Array.toList_append,List.append_assoc];exact List.take_left' hp
 obtain⟨W1,hW1⟩:∃W1,W1=w.drew.alloc (.cells ROW 423):=⟨_,rfl⟩
 rw[<-hW1]at hrz;have hN:W1.heap[w.heap.size]?=some (.cells ROW 423 (0,0)):=by rw[hW1];exact Q1b rfl
 have hO:∀k,k<w.heap.size->W1.heap[k]?=w.heap[k]?:=fun k hk=>by rw[hW1];exact Q0m hk
 have hdl:(xs.drop (i*5)).length=(n -i)*5:=by rw[List.length_drop,hxl,Nat.sub_mul]
 have hcpA:∀(W:World),W.heap=W1.heap->∀ty dl dc,dl=n+1 -i->(Builtin.copy_ #[312,311] ty #[.slice (some ⟨w.heap.size,i*5,none⟩) dl dc,.slice (some ⟨vb,0,none⟩) 1 vc]).run prog W=.ok (goInt 1) (W.setRow w.heap.size (ROW.toList.take (i*5)++new++ROW.toList.drop (i*5+new.length)).toArray):=fun W hW ty dl dc hdl=>
  Q4g W _ _ ty 423 w.heap.size (i*5) dl dc ⟨vb,0,none⟩ 1 vc ROW 423 new 1 5 underlying312 hsz (by rw[hW];exact hN) b2p (by rw[hnew,Nat.one_mul])
   (fun j u hu=>by
    have ha:(Addr.add ⟨vb,0,none⟩ j)=⟨vb,j,none⟩:=by unfold Addr.add;split<;>simp_all
    rw[ha,Q0e (show W.heap[vb]?=_ by rw[hW];exact(hO vb hvw).trans hv) j];simpa using hu)
   (by rw[hnew,hRl,<-Nat.succ_mul];exact Nat.mul_le_mul_right _ om) h1
 obtain⟨R2,hR2⟩:∃R2:List Value,R2=ROW.toList.take (i*5)++new++ROW.toList.drop (i*5+new.length):=⟨_,rfl⟩
 have hR2l:R2.length=G*5:=by
  rw[hR2];simp only[List.length_append,List.length_take,List.length_drop,Array.length_toList,hRl,hnew];have:i*5+5<=G*5:=by rw[<-Nat.succ_mul];exact Nat.mul_le_mul_right _ om
  omega
 have hcpB:∀(W:World),W.heap=(W1.setRow w.heap.size R2.toArray).heap->∀ty dl dc sc,dl=n -i->(Builtin.copy_ #[312,312] ty #[.slice (some ⟨w.heap.size,(i+1)*5,none⟩) dl dc,.slice (some ⟨g,i*5,none⟩) (n -i) sc]).run prog W=.ok (goInt ((n -i:Nat):Int)) (W.setRow w.heap.size (R2.take ((i+1)*5)++xs.drop (i*5)++R2.drop ((i+1)*5+(xs.drop (i*5)).length)).toArray):=fun W hW ty dl dc sc hdl2=>by
  have:=Q4g (P:=prog) W 312 312 ty 423 w.heap.size ((i+1)*5) dl dc ⟨g,i*5,none⟩ (n -i) sc R2.toArray 423 (xs.drop (i*5)) (n -i) 5 underlying312 hsz (by rw[hW];exact setRow_heap _ _ _ _ _ _ hN) (by show n -i=min (n -i) dl;omega) hdl
   (fun j u hu=>by
    have ha:(Addr.add ⟨g,i*5,none⟩ j)=⟨g,i*5+j,none⟩:=by unfold Addr.add;split<;>simp_all
    rw[ha];rw[List.getElem?_drop]at hu;have h0:W.heap[g]?=w.heap[g]?:=by rw[hW,setRow_other _ _ _ _ om];exact hO g hgw
    have:=hcell _ u hu;simp only[World.cell?,h0]at this⊢;exact this)
   b2l (fun u hu=>hx1 u (List.mem_of_mem_drop hu))
  exact this
 have key:=X8s ROW.toList xs new (i*5) 5 ((n -i)*5) b1q hnew hRt b2e;rw[<-hR2,show i*5+5=(i+1)*5 by rw[Nat.succ_mul],show(i+1)*5+(n -i)*5=(n+1)*5 by rw[<-Nat.add_mul];congr 1;omega]at key;rw[<-hR2]at hcpA;obtain⟨R3,hR3⟩:∃R3:List Value,R3=R2.take ((i+1)*5)++xs.drop (i*5)++R2.drop ((i+1)*5+(xs.drop (i*5)).length):=⟨_,rfl⟩
 rw[<-hR3]at hcpB key;clear hR3;have KEY:=Hd (nd4 key hRl hN hO);have hE:(w.drew.alloc (.cells ROW 423)).heap=W1.heap:=by rw[hW1]
 clear hkk hik hold hROW hG hRt key hcell hdl hR2 hR2l hRl hN;subst hW1;have hw1:IntKind.i64.wrap ((i:Int)+1)=(i:Int)+1:=by rw[IntKind.wrap_i64];omega
 have hz2:¬((i:Int)=(n:Int)):=by omega
 have hz3:(c:Int)<(n:Int)+1:=by omega
 have hb1:(0:Int)<=(i:Int)+1:=by omega
 have htn:((i:Int)+1).toNat=i+1:=by omega
 have hb3:(i:Int)<=(n:Int):=by omega
 have hin:i<=n:=by omega
 have hGi:¬(G=i):=by omega
 have hGim:¬(G=i+1):=by omega
 have hci:¬(c=i):=by omega
 go_enter func255,ntmps255;go_wp2_with (first|at_builtin;refine Lib.wpList_append_run _ rfl _ _ _ _ rfl _ _ rfl rfl _ _ (hrz _) ?_|refine Q3j _ rfl _ _ 312 311 rfl _ _ rfl rfl (hcpA _ rf _ _ _ om) ?_|refine Q3j _ rfl _ _ 312 312 rfl _ _ rfl rfl (hcpB _ rf _ _ _ _ om) ?_)
 go_region_law (refine Q6f rfl _ _ 312 312 rfl (.slice (some ⟨w.heap.size,(i+1)*5,none⟩) (n -i) (G -(i+1))) (.slice (some ⟨g,i*5,none⟩) (n -i) (c -i)) b0v b0v (hcpB _ rf _ _ _ _ om) ?_);go_wp2_with fail
 go_ret;refine⟨_,rfl,⟨?_,.inr ⟨w.heap.size,G,_,rfl,Nat.zero_le _,setRow_heap _ _ _ _ _ _ (setRow_heap _ _ _ _ _ _ (Q1b rfl)),hGn,hG63,?_,KEY.out.1.1⟩⟩,⟨rfl,rfl,rfl,?_,fun k hk _=>?_⟩,.inr rfl⟩
 ·rw[List.length_append,List.length_append,List.length_take,List.length_drop,hnew,hxl];have:i*5<=n*5:=Nat.mul_le_mul_right _ om;rw[Nat.min_eq_left this];omega
 ·exact e1d
 ·simp
 ·exact(setRow_other _ _ _ _ om).trans ((setRow_other _ _ _ _ om).trans (Q0m hk))

theorem X3z(n i g c:Nat)(xs new:List Value)(vb vc:Nat)(w:World)(cur:Array Value)(hg:w.heap[g]?=some (.cells cur 423 (0,0)))(hc:cur.size=c*5)(ht:cur.toList.take (n*5)=xs)(hi:i<n)(hroom:n+1<=c)(hcm:c<=maxLen)(hn:n<2 ^ 30)
  (hnew:new.length=5)(h1:∀u∈new,u.oneCell'=true)(hx1:∀u∈xs,u.oneCell'=true)(hv:w.heap[vb]?=some (.cells new.toArray 423 (0,0)))(hvg:vb≠g):
  Calls prog 255 (L2g g n c i vb vc).toArray w fun e w'=>∃v',e=.returned v'/\w'.ownsRow 0 423 5 v' (n+1) (xs.take (i*5)++new++xs.drop (i*5))/\w.grownBy w' (some g)/\(v'.ownBlock=some g\/v'.ownBlock=some w.heap.size):=by
 have hxl:xs.length=n*5:=by rw[<-ht,List.length_take,Array.length_toList,hc];exact Nat.min_eq_left (Nat.mul_le_mul_right _ om)
 have hsz:(prog.info? 423).map (·.size)=some 5:=Z1o.sz;have hcell:∀j u,xs[j]?=some u->w.cell? ⟨g,j,none⟩=some u:=fun j u hu=>by
  exact z0v
 have hov:∀(W:World) lb cb,W.heap=w.heap->(callFunc 275 #[.slice (some ⟨vb,0,none⟩) 1 vc,.slice (some ⟨g,(i+1)*5,none⟩) lb cb]).run prog W=.ok (.value (.bool false)) W:=fun W lb cb hW=>by
  rw[run_callFunc_extern func275 kr kr kr (e:=Extern.SlicesOverlaps.overlaps #[311,311] #[4]) kr,
   Lib.run_overlaps_apart W 311 4 423 underlying311 5 (fun w0=>by obtain⟨i0,q0,_,q2,_⟩:=Z1o.parts;simp[Go.sizeOf,typeInfo,q0,q2]) ⟨vb,0,none⟩ ⟨g,(i+1)*5,none⟩ 1 vc lb cb hvg 423 423 5 (c*5)
    (by simp only[World.shape?,hW,hv,List.size_toArray,hnew]) (by simp only[World.shape?,hW,hg,hc]) (Nat.ne_of_gt (Nat.mul_pos om b0t)) b2j b2j]
  rfl
 have hdl:(xs.drop (i*5)).length=(n -i)*5:=by rw[List.length_drop,hxl,Nat.sub_mul]
 obtain⟨R2,hR2⟩:∃R2:List Value,R2=cur.toList.take ((i+1)*5)++xs.drop (i*5)++cur.toList.drop ((i+1)*5+(xs.drop (i*5)).length):=⟨_,rfl⟩
 have hcpA:∀(W:World),W.heap=w.heap->∀ty dl dc sl sc,dl=n -i->sl=n+1 -i->(Builtin.copy_ #[312,312] ty #[.slice (some ⟨g,(i+1)*5,none⟩) dl dc,.slice (some ⟨g,i*5,none⟩) sl sc]).run prog W=.ok (goInt ((n -i:Nat):Int)) (W.setRow g R2.toArray):=fun W hW ty dl dc sl sc e1 e2=>by
  rw[hR2];exact Q4g W 312 312 ty 423 g ((i+1)*5) dl dc ⟨g,i*5,none⟩ sl sc cur 423 (xs.drop (i*5)) (n -i) 5 underlying312 hsz (by rw[hW];exact hg) (by show n -i=min sl dl;omega) hdl
   (fun j u hu=>by
    have ha:(Addr.add ⟨g,i*5,none⟩ j)=⟨g,i*5+j,none⟩:=by unfold Addr.add;split<;>simp_all
    rw[ha];rw[List.getElem?_drop]at hu;have:=hcell _ u hu;simp only[World.cell?,hW]at this⊢;exact this)
   (by rw[hdl,hc,<-Nat.add_mul];exact Nat.mul_le_mul_right _ om) (fun u hu=>hx1 u (List.mem_of_mem_drop hu))
 have hR2l:R2.length=c*5:=by
  rw[hR2];simp only[List.length_append,List.length_take,List.length_drop,Array.length_toList,hc,hdl];have:(i+1)*5+(n -i)*5<=c*5:=by rw[<-Nat.add_mul];exact Nat.mul_le_mul_right _ om
  rw[List.length_drop]at hdl;omega
 obtain⟨R3,hR3⟩:∃R3:List Value,R3=R2.take (i*5)++new++R2.drop (i*5+new.length):=⟨_,rfl⟩
 have hcpB:∀(W:World),W.heap=(w.setRow g R2.toArray).heap->∀ty dl dc,dl=n+1 -i->(Builtin.copy_ #[312,311] ty #[.slice (some ⟨g,i*5,none⟩) dl dc,.slice (some ⟨vb,0,none⟩) 1 vc]).run prog W=.ok (goInt 1) (W.setRow g R3.toArray):=fun W hW ty dl dc e1=>by
  rw[hR3];exact Q4g W 312 311 ty 423 g (i*5) dl dc ⟨vb,0,none⟩ 1 vc R2.toArray 423 new 1 5 underlying312 hsz (by rw[hW];exact setRow_heap _ _ _ _ _ _ hg) b2p (by rw[hnew,Nat.one_mul])
   (fun j u hu=>by
    have ha:(Addr.add ⟨vb,0,none⟩ j)=⟨vb,j,none⟩:=by unfold Addr.add;split<;>simp_all
    rw[ha,Q0e (show W.heap[vb]?=_ by rw[hW,setRow_other _ _ _ _ hvg];exact hv) j];simpa using hu)
   b2k h1
 have key:=X9d cur.toList xs new (i*5) 5 ((n -i)*5) b1q hnew (by rw[<-Nat.add_mul,show i+(n -i)=n by omega];exact ht) b2f;rw[show i*5+5=(i+1)*5 by rw[Nat.succ_mul],show(i+1)*5+(n -i)*5=(n+1)*5 by rw[<-Nat.add_mul];congr 1;omega,<-hR2,<-hR3]at key;have KEY:=Hd (nd5 key hc hcm hg hxl);clear key hR2 hR2l hR3 hcell hdl hc hcm hxl ht;have hw1:IntKind.i64.wrap ((i:Int)+1)=(i:Int)+1:=by rw[IntKind.wrap_i64];omega
 have hz2:¬((i:Int)=(n:Int)):=by omega
 have hz3:¬((c:Int)<(n:Int)+1):=by omega
 have hb1:(0:Int)<=(i:Int)+1:=by omega
 have htn:((i:Int)+1).toNat=i+1:=by omega
 have hb3:(i:Int)<=(n:Int):=by omega
 have hb4:(i:Int)<=(n:Int)+1:=by omega
 have hin:i<=n:=by omega
 have hci:¬(c=i):=by omega
 have hci1:¬(c=i+1):=by omega
 go_enter func255,ntmps255;go_wp2_with (rw[hov _ _ _ rf])
 go_region_law (refine Q6f rfl _ _ 312 312 rfl (.slice (some ⟨g,(i+1)*5,none⟩) (n -i) (c -(i+1))) (.slice (some ⟨g,i*5,none⟩) (n+1 -i) (c -i)) b0v b0v (hcpA _ rf _ _ _ _ _ om om) ?_);go_wp2_with (refine Q3j _ rfl _ _ 312 311 rfl _ _ rfl rfl (hcpB _ rf _ _ _ om) ?_)
 go_ret;refine⟨_,rfl,⟨?_,.inr ⟨g,c,_,rfl,Nat.zero_le _,setRow_heap _ _ _ _ _ _ (setRow_heap _ _ _ _ _ _ KEY.out.2.2.2.1),hroom,KEY.out.2.2.1,?_,KEY.out.1.1⟩⟩,⟨rfl,rfl,rfl,?_,fun k hk hne=>?_⟩,.inl rfl⟩
 ·rw[List.length_append,List.length_append,List.length_take,List.length_drop,hnew,KEY.out.2.2.2.2];have:i*5<=n*5:=Nat.mul_le_mul_right _ om;rw[Nat.min_eq_left this];omega
 ·exact e1d
 ·simp
 ·have hkg:k≠g:=fun e=>hne (by rw[e]);exact(setRow_other _ _ _ _ hkg).trans (setRow_other _ _ _ _ hkg)
theorem insNd_x(n i:Nat)(v:Value)(xs new:List Value)(vb vc:Nat)(w:World)(hown:w.ownsRow 0 423 5 v n xs)(hi:i<=n)(hn:n<2 ^ 30)(hnew:new.length=5)(h1:∀u∈new,u.oneCell'=true)(hx1:∀u∈xs,u.oneCell'=true)
  (hv:w.heap[vb]?=some (.cells new.toArray 423 (0,0)))(hvg:v.ownBlock≠some vb):
  Calls prog 255 (L2q v i vb vc).toArray w fun e w'=>∃v',e=.returned v'/\w'.ownsRow 0 423 5 v' (n+1) (xs.take (i*5)++new++xs.drop (i*5))/\w.grownBy w' v.ownBlock/\(v'.ownBlock=v.ownBlock\/v'.ownBlock=some w.heap.size):=by
 have hl:=hown.1;by_cases he:i=n
 ·subst he;have:=insNd_end i v xs new vb vc w hown hn hnew h1 hv;rwa [<-hl,List.take_length,List.drop_length,List.append_nil]
 ·rcases hown.2 with⟨rfl,rfl⟩|⟨g,c,cur,rfl,_,hg,hnc,hcm,hc,ht⟩
  ·omega
  ·by_cases hr:n+1<=c
   ·exact X3z n i g c xs new vb vc w cur hg hc ht om hr hcm hn hnew h1 hx1 hv (fun e=>hvg (by rw[e];rfl))
   ·exact insNd_grow n i g c xs new vb vc w cur hg hc ht om hnc om hn hnew h1 hx1 hv
end
end Go.Proofs.YtbmklgemmjgjfaaGreat
