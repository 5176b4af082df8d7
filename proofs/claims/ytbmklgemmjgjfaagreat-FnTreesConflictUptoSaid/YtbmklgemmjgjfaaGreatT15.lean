/- Part 15: Tcl, Tys, Gwn, Frm, Und, Trp, Fso, Its. -/
import Derived.Test.YtbmklgemmjgjfaaGreatT14
namespace Go.Proofs.YtbmklgemmjgjfaaGreat
open List (length_cons length_map mem_append mem_append_left mem_append_right mem_cons mem_cons_self)
open Go.RowKit Go.Maps Tryz
set_option linter.unusedVariables false
set_option linter.unusedSimpArgs false
set_option maxRecDepth 100000
set_option maxHeartbeats 4000000
section
class Tsz (P:Program) (T:TypeId) (n:outParam Nat) (g:outParam Bool):Prop where
 s:(P.info? T).map (·.size)=some n:=by kernel_rfl
 a:(P.underlying T).map aggD=some g:=by kernel_rfl
class Tze (P:Program) (T:TypeId) (cs:outParam (List Value)):Prop where
 h:(P.info? T).bind (·.zero)=some (.agg cs.toArray)\/∃v,cs=[v]/\v.oneCell'=true/\(P.info? T).bind (·.zero)=some v
theorem tz{P:Program}{T:TypeId}{v:Value}(h:(P.info? T).bind (·.zero)=some v:=by kernel_rfl)(h1:v.oneCell'=true:=by rfl):Tze P T [v]:=⟨.inr ⟨v,rfl,h1,h⟩⟩
end
section
instance :Tsz prog 2 1 false:={}
instance :Tsz prog 3 1 false:={}
instance :Tze prog 3 [.int .i64 0]:=tz
instance :Tsz prog 4 1 false:={}
instance :Tsz prog 9 1 false:={}
instance :Tze prog 9 [.string ⟨#[]⟩]:=tz
instance :Tsz prog 20 1 false:={}
instance :Tze prog 20 [.nilIface]:=tz
instance :Tsz prog 22 1 false:={}
instance :Tsz prog 24 1 true:={}
instance :Tze prog 24 [sn]:=⟨.inl kr⟩
instance :Tsz prog 25 1 false:={}
instance :Tsz prog 26 1 false:={}
instance :Tsz prog 28 3 true:={}
instance :Tsz prog 30 6 true:={}
instance :Tze prog 30 [.bool false,.string ⟨#[]⟩,.string ⟨#[]⟩,sn,sn,.string ⟨#[]⟩]:=⟨.inl kr⟩
instance :Tsz prog 31 1 false:={}
instance :Tsz prog 32 1 false:={}
instance :Tsz prog 33 1 false:={}
instance :Tsz prog 35 6 true:={}
instance :Tze prog 35 L0c:=⟨.inl kr⟩
instance :Tsz prog 36 1 false:={}
instance :Tsz prog 37 1 false:={}
instance :Tsz prog 38 1 false:={}
instance :Tsz prog 39 1 false:={}
instance :Tsz prog 41 22 true:={}
instance :Tze prog 41 L1j:=⟨.inl kr⟩
instance :Tsz prog 47 10 true:={}
instance :Tze prog 47 L1u:=⟨.inl kr⟩
instance :Tsz prog 49 1 false:={}
instance :Tze prog 49 [sn]:=tz
instance :Tsz prog 57 4 true:={}
instance :Tze prog 57 L1x:=⟨.inl kr⟩
instance :Tsz prog 79 1 false:={}
instance :Tze prog 79 [sn]:=tz
instance :Tsz prog 86 10 true:={}
instance :Tze prog 86 L2m:=⟨.inl kr⟩
instance :Tsz prog 95 2 true:={}
instance :Tze prog 95 [.string ⟨#[]⟩,sn]:=⟨.inl kr⟩
instance :Tsz prog 105 1 false:={}
instance :Tsz prog 106 1 false:={}
instance :Tsz prog 107 1 false:={}
instance :Tsz prog 108 1 false:={}
instance :Tsz prog 109 1 false:={}
instance :Tsz prog 111 3 true:={}
instance :Tze prog 111 [pn,pn,pn]:=⟨.inl kr⟩
instance :Tsz prog 112 1 false:={}
instance :Tsz prog 114 6 true:={}
instance :Tze prog 114 [pn,pn,pn,pn,pn,.bool false]:=⟨.inl kr⟩
instance :Tsz prog 115 1 false:={}
instance :Tsz prog 116 1 false:={}
instance :Tsz prog 118 10 true:={}
instance :Tze prog 118 L1z:=⟨.inl kr⟩
instance :Tsz prog 120 1 false:={}
instance :Tsz prog 133 1 false:={}
instance :Tsz prog 143 1 false:={}
instance :Tsz prog 147 1 false:={}
instance :Tsz prog 163 1 false:={}
instance :Tsz prog 165 8 true:={}
instance :Tze prog 165 [sn,.bool false,.string ⟨#[]⟩,.string ⟨#[]⟩,sn,sn,.string ⟨#[]⟩,.string ⟨#[]⟩]:=⟨.inl kr⟩
instance :Tsz prog 167 8 true:={}
instance :Tze prog 167 [.bool false,.string ⟨#[]⟩,.string ⟨#[]⟩,sn,sn,.string ⟨#[]⟩,.string ⟨#[]⟩,sn]:=⟨.inl kr⟩
instance :Tsz prog 169 4 true:={}
instance :Tze prog 169 [.string ⟨#[]⟩,.string ⟨#[]⟩,sn,sn]:=⟨.inl kr⟩
instance :Tsz prog 173 11 true:={}
instance :Tze prog 173 L1e:=⟨.inl kr⟩
instance :Tsz prog 198 1 false:={}
instance :Tsz prog 199 1 false:={}
instance :Tsz prog 200 1 false:={}
instance :Tsz prog 202 4 true:={}
instance :Tze prog 202 [.nilIface,.map none,.map none,.bool false]:=⟨.inl kr⟩
instance :Tsz prog 210 1 false:={}
instance :Tsz prog 228 1 false:={}
instance :Tze prog 228 [sn]:=tz
instance :Tsz prog 234 1 false:={}
instance :Tsz prog 239 4 true:={}
instance :Tze prog 239 [.string ⟨#[]⟩,pn,pn,pn]:=⟨.inl kr⟩
instance :Tsz prog 240 1 false:={}
instance :Tsz prog 251 1 false:={}
instance :Tsz prog 254 1 false:={}
instance :Tsz prog 261 1 false:={}
instance :Tsz prog 283 1 false:={}
instance :Tze prog 283 [.map none]:=tz
instance :Tsz prog 308 1 false:={}
instance :Tsz prog 310 1 true:={}
instance :Tze prog 310 [sn]:=⟨.inl kr⟩
instance :Tsz prog 312 1 false:={}
instance :Tsz prog 314 1 true:={}
instance :Tsz prog 327 2 true:={}
instance :Tze prog 327 [.string ⟨#[]⟩,sn]:=⟨.inl kr⟩
instance :Tsz prog 330 1 false:={}
instance :Tze prog 330 [.string ⟨#[]⟩]:=tz
instance :Tsz prog 332 8 true:={}
instance :Tze prog 332 [pn,pn,pn,pn,pn,.bool false,.string ⟨#[]⟩,sn]:=⟨.inl kr⟩
instance :Tsz prog 334 1 false:={}
instance :Tsz prog 335 1 false:={}
instance :Tsz prog 337 9 true:={}
instance :Tze prog 337 L2b:=⟨.inl kr⟩
instance :Tsz prog 356 1 false:={}
instance :Tsz prog 358 4 true:={}
instance :Tze prog 358 [pn,pn,pn,pn]:=⟨.inl kr⟩
instance :Tsz prog 367 8 true:={}
instance :Tze prog 367 [.nilIface,pn,pn,pn,pn,pn,.bool false,pn]:=⟨.inl kr⟩
instance :Tsz prog 370 1 false:={}
instance :Tze prog 370 [pn]:=tz
instance :Tsz prog 373 1 false:={}
instance :Tze prog 373 [sn]:=tz
instance :Tsz prog 375 1 false:={}
instance :Tsz prog 377 12 true:={}
instance :Tsz prog 392 1 false:={}
instance :Tsz prog 415 1 false:={}
instance :Tze prog 415 [pn]:=tz
instance :Tsz prog 416 1 false:={}
instance :Tsz prog 418 14 true:={}
instance :Tsz prog 423 5 true:={}
instance :Tze prog 423 [pn,pn,pn,pn,pn]:=⟨.inl kr⟩
instance :Tsz prog 427 8 true:={}
instance :Tze prog 427 L2p:=⟨.inl kr⟩
instance :Tsz prog 430 1 true:={}
instance :Tsz prog 455 1 false:={}
instance :Tsz prog 456 1 false:={}
instance :Tze prog 456 [pn]:=tz
instance :Tsz prog 457 1 false:={}
instance :Tsz prog 458 1 false:={}
instance :Tsz prog 460 16 true:={}
instance :Tsz prog 475 1 false:={}
instance :Tze prog 475 [pn]:=tz
instance :Tsz prog 477 1 false:={}
instance :Tsz prog 479 11 true:={}
instance :Tsz prog 549 1 false:={}
instance :Tsz prog 643 1 false:={}
instance :Tsz prog 673 1 false:={}
instance :Tsz prog 693 1 false:={}
instance :Tsz prog 696 1 false:={}
end
section
variable{o:Oper}
theorem Q0b(h:o.guard=none)(y:Nat->Option Bool):Region.wanted o y=true:=by simp[Region.wanted,h]
theorem X3r{j:Nat}{want b:Bool}{y:Nat->Option Bool}(h:o.guard=some (j,want))(hy:y j=some b)(hb:b=want):Region.wanted o y=true:=by simp[Region.wanted,h,hy,hb]
section
variable{P:Program}{M:Nat->Prop}{I J:Gh}{w W:World}{L L':List Blk}{R R':List Rw}{ops:Array Oper}{rest:List Oper}{o:Oper}{a:Act}{Q:EAW}{K:AW}{b j n:Nat}{cs sub new old:List Value}{t T:TypeId}{x y:Operand}{v:Value}
theorem Q3f(hu:(P.underlying T).map aggD=some true)(hi:(P.info? T).map (·.size)=some n)(hc:∀(i:Nat) v,sub[i]?=some v->W.cell? ⟨b,j+i,Option.none⟩=some v)(hn:sub.length=n):(loadVar T ⟨b,j,Option.none⟩).run P W=.ok (.agg sub.toArray) W:=by
 have h1:(loadCells ⟨b,j,Option.none⟩ n).run P W=.ok sub.toArray W:=by
  have:=run_loadCells_list (P:=P) (w:=W) ⟨b,j,Option.none⟩ sub (fun i u hu=>by
   have ha:(Addr.add ⟨b,j,Option.none⟩ i)=⟨b,j+i,Option.none⟩:=by unfold Addr.add;split<;>simp_all
   rw[ha];exact hc i u hu)
  rwa [hn]at this
 cases hd:P.underlying T with
 |none=>rw[hd]at hu;cases hu
 |some d=>
  rw[hd]at hu;have hagg:(isAgg T).run P W=.ok true W:=by
   exact e1n
  cases hq:P.info? T with
  |none=>rw[hq]at hi;cases hi
  |some i=>
   have hs:i.size=n:=by rw[hq]at hi;simpa using hi
   simp[loadVar,Sem.run_bind,hagg,sizeOf,typeInfo,hq,hs,h1]
end
end
section
theorem Q2x{α:Type}{a b:List α}(h:∀p:α->Bool,a.countP p=b.countP p):a.Perm b:=by
 classical
 refine List.perm_iff_count.2 fun x=>?_;exact h (·==x)
section
variable{M:Nat->Prop}{I J K:Gh}{w W W':World}{L L' L0:List Blk}{R R' R0:List Rw}{b:Nat}{cs new:List Value}{t:TypeId}
theorem St.perm(h:St M I J w W L R)(hl:L'.Perm L)(hr:R'.Perm R):St M I J w W L' R':=by
 refine⟨h.step,fun x hx=>h.own x (hl.mem_iff.1 hx),?_,fun r hrr=>?_,?_⟩
 ·exact(hl.pairwise_iff (fun{a b} k=>Ne.symm k)).2 h.nodup
 ·have h1:=h.rows r (hr.mem_iff.1 hrr);exact⟨h1.1,fun g hg=>⟨(h1.2 g hg).1,(h1.2 g hg).2.1,fun x hx=>(h1.2 g hg).2.2 x (hl.mem_iff.1 hx)⟩⟩
 ·exact(hr.pairwise_iff (fun{a b} k g h1 h2=>k g h2 h1)).2 h.rdis
theorem St.lperm(h:St M I J w W L R)(hl:L'.Perm L):St M I J w W L' R:=h.perm hl (List.Perm.refl _)
theorem St.rperm(h:St M I J w W L R)(hr:R'.Perm R):St M I J w W L R':=h.perm (List.Perm.refl _) hr
theorem St.dropL:∀{L:List Blk},St M I J w W (L++L0) R->St M I J w W L0 R
 |[],h=>h
 |_::_,h=>St.dropL (St.pop h)
theorem St.dropR:∀{R:List Rw},St M I J w W L (R++R0)->St M I J w W L R0
 |[],h=>h
 |_::_,h=>St.dropR (St.rpop h)
def Z8t(K:Gh)(x:Blk):Prop:=match x.2.2 with
 |.t t=>K x.1=some (.cells x.2.1.toArray t (0,0))
 |.m e=>K.map x.1 e
theorem Z8t.mono{x:Blk}(h:Z8t J x)(l:J.le K):Z8t K x:=by
 obtain⟨b,cs,k⟩:=x;cases k with
 |t t=>exact l _ _ h
 |m m=>exact Gh.map.mono (show J.map b m from h) l
theorem Z8t.of{x:Blk}(h:Z9g W x)(e:K x.1=W.heap[x.1]?):Z8t K x:=by
 obtain⟨b,cs,k⟩:=x;cases k with
 |t t=>exact e.trans h
 |m m=>
  obtain⟨o,ho,hm⟩:=Q3z.obj (show Q3z W b m from h);exact⟨o,e.trans ho,hm⟩
theorem St.freezeL:∀{L:List Blk} {J:Gh},St M I J w W (L++L0) R->∃K,J.le K/\(∀x∈L,Z8t K x)/\St M I K w W L0 R
 |[],J,h=>⟨J,gR,fun x hx=>absurd hx b0f,h⟩
 |x::L,J,h=>by
  obtain⟨K1,l1,e1,S1⟩:=St.freezeX (show St M I J w W (x::(L++L0)) R from h);have e0:=Z8t.of (h.own x (mem_cons_self ..)).1 e1;obtain⟨K2,l2,e2,S2⟩:=St.freezeL S1;refine⟨K2,gT l1 l2,fun y hy=>?_,S2⟩;rcases mem_cons.1 hy with rfl|hy
  ·exact e0.mono l2
  ·exact e2 y hy
theorem St.freezeR:∀{R:List Rw} {J:Gh},St M I J w W L (R++R0)->∃K,J.le K/\(∀r∈R,∃(a:OA) (c:Nat),r.v=.slice a r.n c/\r.n<=c/\c<=maxLen/\Q0u K a r.xs)/\St M I K w W L R0
 |[],J,h=>⟨J,gR,fun x hx=>absurd hx b0f,h⟩
 |r::R,J,h=>by
  obtain⟨K1,a,c,l1,e1,h1,h2,h3,S1⟩:=St.rfreeze (show St M I J w W L (r::(R++R0))from h);obtain⟨K2,l2,e2,S2⟩:=St.freezeR S1;refine⟨K2,gT l1 l2,fun y hy=>?_,S2⟩;rcases mem_cons.1 hy with rfl|hy
  ·exact⟨a,c,e1,h1,h2,h3.mono l2⟩
  ·exact e2 y hy
theorem St.freezeLR{L:List Blk}{R:List Rw}(h:St M I J w W (L++L0) (R++R0)):∃K,J.le K/\(∀x∈L,Z8t K x)/\(∀r∈R,∃(a:OA) (c:Nat),r.v=.slice a r.n c/\r.n<=c/\c<=maxLen/\Q0u K a r.xs)/\St M I K w W L0 R0:=by
 obtain⟨K1,l1,e1,S1⟩:=St.freezeL h;obtain⟨K2,l2,e2,S2⟩:=St.freezeR S1;exact⟨K2,gT l1 l2,fun x hx=>(e1 x hx).mono l2,e2,S2⟩
def Mine(L:List Blk)(R:List Rw)(g:Nat):Prop:=(∃x∈L,x.1=g)\/∃r∈R,r.v.ownBlock=some g
theorem St.sub(h:St M I J w W L R):St (Mine L R) J J W W L R:=
 ⟨Step.refl h.inw,fun x hx=>⟨(h.own x hx).1,(h.own x hx).2.1,fun _=>.inl ⟨x,hx,rfl⟩⟩,h.nodup,fun r hr=>⟨(h.rows r hr).1,fun g hg=>⟨((h.rows r hr).2 g hg).1,fun _=>.inr ⟨r,hr,hg⟩,((h.rows r hr).2 g hg).2.2⟩⟩,h.rdis⟩
theorem St.mineM{L1:List Blk}{R1:List Rw}(S:St M I J w W (L1++L0) (R1++R0)){g:Nat}(hn:Mine L1 R1 g)(hlt:g<w.heap.size):M g:=by
 rcases hn with⟨x,hx,rfl⟩|⟨r,hr,hg⟩
 ·exact(S.own x (mem_append_left _ hx)).2.2 hlt
 ·exact((S.rows r (mem_append_left _ hr)).2 g hg).2.1 hlt
theorem St.notMineL{L1:List Blk}{R1:List Rw}(S:St M I J w W (L1++L0) (R1++R0)){x:Blk}(hx:x∈L0):¬Mine L1 R1 x.1:=by
 rintro(⟨y,hy,e⟩|⟨r,hr,hg⟩)
 ·exact(List.pairwise_append.1 S.nodup).2.2 y hy x hx e
 ·exact((S.rows r (mem_append_left _ hr)).2 _ hg).2.2 x (mem_append_right _ hx) rfl
theorem St.notMineR{L1:List Blk}{R1:List Rw}(S:St M I J w W (L1++L0) (R1++R0)){r:Rw}(hr:r∈R0){g:Nat}(hg:r.v.ownBlock=some g):¬Mine L1 R1 g:=by
 rintro(⟨y,hy,e⟩|⟨s,hs,hg'⟩)
 ·exact((S.rows r (mem_append_right _ hr)).2 g hg).2.2 y (mem_append_left _ hy) e
 ·exact(List.pairwise_append.1 S.rdis).2.2 s hs r hr g hg' hg
theorem St.back{L1 L2:List Blk}{R1 R2:List Rw}(S:St M I J w W (L1++L0) (R1++R0))(T:St (Mine L1 R1) J K W W' L2 R2):St M I K w W' (L2++L0) (R2++R0):=by
 have hup:=S.step.size;have n1:∀x∈L0,¬Mine L1 R1 x.1:=fun x hx=>S.notMineL hx;have n2:∀r∈R0,∀g,r.v.ownBlock=some g->¬Mine L1 R1 g:=fun r hr g hg=>S.notMineR hr hg;have lt1:∀x∈L0,x.1<W.heap.size:=fun x hx=>S.lt (mem_append_right _ hx);have lt2:∀r∈R0,∀g,r.v.ownBlock=some g->g<W.heap.size:=fun r hr g hg=>S.rlt (mem_append_right _ hr) hg;refine⟨S.step.trans T.step fun b hb hn=>S.mineM hn hb,fun x hx=>?_,List.pairwise_append.2 ⟨T.nodup,(List.pairwise_append.1 S.nodup).2.1,fun x hx y hy e=>?_⟩,fun r hr=>?_,List.pairwise_append.2 ⟨T.rdis,(List.pairwise_append.1 S.rdis).2.1,fun r hr s hs g h1 h2=>?_⟩⟩
 ·rcases mem_append.1 hx with hx|hx
  ·exact⟨(T.own x hx).1,(T.own x hx).2.1,fun hlt=>S.mineM ((T.own x hx).2.2 om) hlt⟩
  ·have h0:=S.own x (mem_append_right _ hx);exact⟨h0.1.keep (T.step.block _ (lt1 x hx) (n1 x hx)),(T.step.old _ (lt1 x hx) (n1 x hx)).trans h0.2.1,h0.2.2⟩
 ·exact n1 y hy (e▸(T.own x hx).2.2 (e▸lt1 y hy))
 ·rcases mem_append.1 hr with hr|hr
  ·refine⟨(T.rows r hr).1,fun g hg=>⟨((T.rows r hr).2 g hg).1,fun hlt=>S.mineM (((T.rows r hr).2 g hg).2.1 om) hlt,fun x hx=>?_⟩⟩;rcases mem_append.1 hx with hx|hx
   ·exact((T.rows r hr).2 g hg).2.2 x hx
   ·exact fun e=>n1 x hx (by rw[e];exact((T.rows r hr).2 g hg).2.1 (e▸lt1 x hx))
  ·have h0:=S.rows r (mem_append_right _ hr);refine⟨Q1q h0.1 fun g hg=>T.step.block g (lt2 r hr g hg) (n2 r hr g hg),fun g hg=>⟨(T.step.old g (lt2 r hr g hg) (n2 r hr g hg)).trans (h0.2 g hg).1,(h0.2 g hg).2.1,fun x hx=>?_⟩⟩;rcases mem_append.1 hx with hx|hx
   ·exact fun e=>n2 r hr g hg (by rw[<-e];exact(T.own x hx).2.2 (by rw[e];exact lt2 r hr g hg))
   ·exact(h0.2 g hg).2.2 x (mem_append_right _ hx)
 ·exact n2 s hs g h2 (((T.rows r hr).2 g h1).2.1 (lt2 s hs g h2))
end
def AP(M:Nat->Prop)(I:Gh)(w:World)(J:Gh)(Post:Value->Gh->List Blk->List Rw->Prop)(e:Ending)(W':World):Prop:=∃r K L' R',e=.returned r/\J.le K/\Post r K L' R'/\St M I K w W' L' R'
def Acts(P:Program)(f:FuncId)(args:Array Value)(J:Gh)(L:List Blk)(R:List Rw)(Post:Value->Gh->List Blk->List Rw->Prop):Prop:=
 ∀(M:Nat->Prop) (I:Gh) (w W:World),Hid (St M I J w W L R)->Calls P f args W (AP M I w J Post)
section
variable{P:Program}{f:FuncId}{args:Array Value}{M:Nat->Prop}{I J:Gh}{w W:World}{L L1 L0:List Blk}{R R1 R0:List Rw}{Post Post':Value->Gh->List Blk->List Rw->Prop}{X:Ending->World->Prop}
theorem Z7p(S:Hid (St M I J w W L R))(h:Acts P f args J L1 R1 Post)(hl:(L1++L0).Perm L)(hr:(R1++R0).Perm R)
  (k:∀r K L' R' W',J.le K->Post r K L' R'->Hid (St M I K w W' (L'++L0) (R'++R0))->X (.returned r) W'):Calls P f args W X:=by
 have S1:St M I J w W (L1++L0) (R1++R0):=S.out.perm hl hr;have S2:St M I J w W L1 R1:=by
  refine⟨S1.step,fun x hx=>S1.own x (mem_append_left _ hx),(List.pairwise_append.1 S1.nodup).1,fun r hr=>?_,(List.pairwise_append.1 S1.rdis).1⟩;have h0:=S1.rows r (mem_append_left _ hr);exact⟨h0.1,fun g hg=>⟨(h0.2 g hg).1,(h0.2 g hg).2.1,fun x hx=>(h0.2 g hg).2.2 x (mem_append_left _ hx)⟩⟩
 refine(h _ _ _ _ (Hd S2.sub)).mono ?_;rintro e W' ⟨r,K,L',R',rfl,hle,hp,T⟩;exact k r K L' R' W' hle hp (Hd (S1.back T))
theorem Acts.mono(h:Acts P f args J L R Post)(k:∀r K L' R',J.le K->Post r K L' R'->Post' r K L' R'):Acts P f args J L R Post':=fun M I w W S=>by
 refine(h M I w W S).mono ?_;rintro e W' ⟨r,K,L',R',rfl,hle,hp,T⟩;exact⟨r,K,L',R',rfl,hle,k r K L' R' hle hp,T⟩
end
abbrev Ac:=Acts prog
abbrev N0(p:Value->Gh->Prop)(u:Value)(K:Gh)(L':List Blk)(R':List Rw):Prop:=L'=[]/\R'=[]/\p u K
end
section
theorem under_x(I:Gh)(pa:OA)(pc:Nat)(p:List PE)(e:PE)(hf:Q0u I pa (p.flatMap Q0s))(hm:p.length<=2 ^ 30)(w:World)(hi:I.In w):
  Calls prog 77 #[.slice pa p.length pc,Q4p e] w fun ee w'=>∃(r:Value) (J:Gh),ee=.returned r/\Step Nix I J w w'/\Q2l J r (p++[e]):=by
 have hlen:=Z2a Q3n p;have HF:=Hd (And.intro hf hlen);clear hf hlen;unfold Q4p;refine Q0c (M:=Nix) hi ?_;intro W S;go_enter func77,ntmps77;go_wp2_with (first|refine wk ?_|refine Ws ?_;clear S;intro W S|refine wn ?_;clear S;intro b W S|refine Q0q (t:=79) (e:=173) S rf rf underlying79 kr Z7c ?_;clear S;(try clear W);intro b W S)
 go_region_held3 (fun W=>W.cell? ⟨b,0,none⟩=some (.int .i64 0)/\W.cell? ⟨b,1,none⟩=some (.string e)/\W.cell? ⟨b,2,none⟩=some (sn)/\W.cell? ⟨b,3,none⟩=some (sn)/\W.cell? ⟨b,4,none⟩=some (.int .i64 0)/\W.cell? ⟨b,5,none⟩=some (.int .i64 0)/\W.cell? ⟨b,6,none⟩=some (.float .f64 0)/\W.cell? ⟨b,7,none⟩=some (.string ⟨#[]⟩)/\W.cell? ⟨b,8,none⟩=some (sn)/\W.cell? ⟨b,9,none⟩=some (sn)/\W.cell? ⟨b,10,none⟩=some (.int .i64 0)) (first|exact⟨(S3.out.cell b0a 0).trans rfl,(S3.out.cell b0a 1).trans rfl,(S3.out.cell b0a 2).trans rfl,(S3.out.cell b0a 3).trans rfl,(S3.out.cell b0a 4).trans rfl,(S3.out.cell b0a 5).trans rfl,(S3.out.cell b0a 6).trans rfl,(S3.out.cell b0a 7).trans rfl,(S3.out.cell b0a 8).trans rfl,(S3.out.cell b0a 9).trans rfl,(S3.out.cell b0a 10).trans rfl⟩|exact⟨(S2.out.cell b0a 0).trans rfl,(S2.out.cell b0a 1).trans rfl,(S2.out.cell b0a 2).trans rfl,(S2.out.cell b0a 3).trans rfl,(S2.out.cell b0a 4).trans rfl,(S2.out.cell b0a 5).trans rfl,(S2.out.cell b0a 6).trans rfl,(S2.out.cell b0a 7).trans rfl,(S2.out.cell b0a 8).trans rfl,(S2.out.cell b0a 9).trans rfl,(S2.out.cell b0a 10).trans rfl⟩|exact⟨(S.out.cell b0a 0).trans rfl,(S.out.cell b0a 1).trans rfl,(S.out.cell b0a 2).trans rfl,(S.out.cell b0a 3).trans rfl,(S.out.cell b0a 4).trans rfl,(S.out.cell b0a 5).trans rfl,(S.out.cell b0a 6).trans rfl,(S.out.cell b0a 7).trans rfl,(S.out.cell b0a 8).trans rfl,(S.out.cell b0a 9).trans rfl,(S.out.cell b0a 10).trans rfl⟩|exact⟨((S.out.drew).cell b0a 0).trans rfl,((S.out.drew).cell b0a 1).trans rfl,((S.out.drew).cell b0a 2).trans rfl,((S.out.drew).cell b0a 3).trans rfl,((S.out.drew).cell b0a 4).trans rfl,((S.out.drew).cell b0a 5).trans rfl,((S.out.drew).cell b0a 6).trans rfl,((S.out.drew).cell b0a 7).trans rfl,((S.out.drew).cell b0a 8).trans rfl,((S.out.drew).cell b0a 9).trans rfl,((S.out.drew).cell b0a 10).trans rfl⟩|exact⟨((S.out.drew.allocO _).cell b0a 0).trans rfl,((S.out.drew.allocO _).cell b0a 1).trans rfl,((S.out.drew.allocO _).cell b0a 2).trans rfl,((S.out.drew.allocO _).cell b0a 3).trans rfl,((S.out.drew.allocO _).cell b0a 4).trans rfl,((S.out.drew.allocO _).cell b0a 5).trans rfl,((S.out.drew.allocO _).cell b0a 6).trans rfl,((S.out.drew.allocO _).cell b0a 7).trans rfl,((S.out.drew.allocO _).cell b0a 8).trans rfl,((S.out.drew.allocO _).cell b0a 9).trans rfl,((S.out.drew.allocO _).cell b0a 10).trans rfl⟩|exact⟨(((S.out.drew.allocO _).allocO _).cell b0a 0).trans rfl,(((S.out.drew.allocO _).allocO _).cell b0a 1).trans rfl,(((S.out.drew.allocO _).allocO _).cell b0a 2).trans rfl,(((S.out.drew.allocO _).allocO _).cell b0a 3).trans rfl,(((S.out.drew.allocO _).allocO _).cell b0a 4).trans rfl,(((S.out.drew.allocO _).allocO _).cell b0a 5).trans rfl,(((S.out.drew.allocO _).allocO _).cell b0a 6).trans rfl,(((S.out.drew.allocO _).allocO _).cell b0a 7).trans rfl,(((S.out.drew.allocO _).allocO _).cell b0a 8).trans rfl,(((S.out.drew.allocO _).allocO _).cell b0a 9).trans rfl,(((S.out.drew.allocO _).allocO _).cell b0a 10).trans rfl⟩|exact⟨((S2.out.allocO _).cell b0a 0).trans rfl,((S2.out.allocO _).cell b0a 1).trans rfl,((S2.out.allocO _).cell b0a 2).trans rfl,((S2.out.allocO _).cell b0a 3).trans rfl,((S2.out.allocO _).cell b0a 4).trans rfl,((S2.out.allocO _).cell b0a 5).trans rfl,((S2.out.allocO _).cell b0a 6).trans rfl,((S2.out.allocO _).cell b0a 7).trans rfl,((S2.out.allocO _).cell b0a 8).trans rfl,((S2.out.allocO _).cell b0a 9).trans rfl,((S2.out.allocO _).cell b0a 10).trans rfl⟩|go_keep) (first|(have hq:=S2.out;clear hq;refine X7u (by first|exact S2.out|exact S2.out.alloc _ rfl (L0i e) 173) rf _ rf rf rf (fun r=>[r]) (fun _=>.head) underlying79 Z7c rfl b0t (St.reads (by first|exact S2.out|exact S2.out.alloc _ rfl (L0i e) 173) b0a 1 11 rfl) (Z8r (p:=[e])) (by have:=hN1.out;unfold maxLen;omega) (by have:=hN1.out;omega) ?_;intro A2 N2 c2 W2 hN2 S3)|(have hq:=HF.out;refine X7u (by first|exact(S.out.drew.alloc _ rfl [] 173).asrow 0 11 rfl (Nat.zero_le _)|exact((S.out.drew.alloc _ rfl (L0i e) 173).alloc (W.heap.size+1) b0f [] 173).asrow 0 11 rfl (Nat.zero_le _)|exact((S.out.drew.alloc _ rfl [] 173).asrow 0 11 rfl (Nat.zero_le _)).alloc (W.heap.size+1) b0f (L0i e) 173) rf _ rf rf rf (fun r=>[r]) (fun _=>.head) underlying79 Z7c rfl b0t (hq.1.reads hq.2 b0t (by repeat' first|exact S.out.inw|refine Gh.In.drew ?_|refine Gh.In.alloc ?_ _)) Z8r b0q om ?_;clear hq;intro A1 N1 c1 W1 hN1 S2));all_goals go_wp2_with fail
 all_goals go_ret
 all_goals
  obtain⟨K,a,c,hle,hv,h1,h2,hf,S4⟩:=S3.out.rfreeze
  have e1:N2=(p++[e]).length:=by have:=hN1.out;have:=hN2.out;simp;omega
  refine⟨_,K,rfl,S4.step,a,c,by rw[<-e1];exact hv,by rw[<-e1];exact h1,h2,?_⟩
  have e2:(p++[e]).flatMap Q0s=p.flatMap Q0s++Q0s e:=by simp
  rw[e2]
  exact hf
end
section
variable{J:Gh}
theorem Q4a{P:Program}{M:Nat->Prop}{I:Gh}{w W:World}{L:List Blk}{R:List Rw}{f:FuncId}{args:Array Value}{X:Ending->World->Prop}(S:St M I J w W L R)(h:Hid (St M I J w W L R)->Calls P f args W X):Calls P f args W X:=h S
mutual
theorem Z3k:∀t:Tr,(Q0f t).length<=t.bulk
 |.map m=>by have:=Z1a m;simp only[Q0f,Tr.bulk];omega
 |.null=>by simp[Q0f]
 |.bool _=>by simp[Q0f]
 |.int _=>by simp[Q0f]
 |.flt _=>by simp[Q0f]
 |.str _=>by simp[Q0f]
 |.list _=>by simp[Q0f]
theorem Z1a:∀m:KT,(Q1u m).length<=Q3m m
 |[]=>by simp[Q1u]
 |(k,t)::m=>by
  have:=Z3k t;have:=Z1a m;simp only[Q1u,Q3m,length_cons,List.length_append,length_map];omega
end
theorem X4i(m:KT):∀{i:Nat} {k:BA} {u:Tr},m[i]?=some (k,u)->Q1u (m.take (i+1))=Q1u (m.take i)++([k]::(Q0f u).map (k::·)):=by
 induction m with
 |nil=>intro i k u h;simp at h
 |cons q m ih=>
  intro i k u h;obtain⟨l,t⟩:=q;cases i with
  |zero=>simp at h;obtain⟨rfl,rfl⟩:=h;simp[Q1u]
  |succ i=>
   simp only[List.getElem?_cons_succ]at h;rw[List.take_succ_cons,List.take_succ_cons,Q1u,Q1u,ih h];simp
theorem Z7d(m:KT):∀i,(Q1u (m.take i)).length<=(Q1u m).length:=by
 induction m with
 |nil=>intro i;simp
 |cons q m ih=>
  intro i;obtain⟨l,t⟩:=q;cases i with
  |zero=>simp[Q1u]
  |succ i=>rw[List.take_succ_cons,Q1u,Q1u];have:=ih i;simp only[length_cons,List.length_append];omega
theorem X3l{vs:List Value}{ps:List (List PE)}(h:All2 (Q2l J) vs ps):∀u∈vs,u.oneCell'=true:=by
 induction h with
 |nil=>intro u hu;cases hu
 |cons h _ ih=>
  intro u hu;rcases mem_cons.1 hu with rfl|hu
  ·obtain⟨a,c,rfl,_⟩:=h;rfl
  ·exact ih u hu
def TrpH(N:Nat):Prop:=∀(J:Gh) (v:V6) (x:IV) (_:VIs J v x) (p:List PE) (pa:OA) (pc:Nat) (_:Q0u J pa (p.flatMap Q0s)) (_:x.bulk<N/\p.length+x.bulk<=2 ^ 30) (w:World) (_:J.In w),
 Calls prog 33 #[v.agg,.slice pa p.length pc] w fun e w'=>∃(r:Value) (K:Gh),e=.returned r/\Step Nix J K w w'/\Q2i K r ((Q0f x.tr).map (p++·))
theorem trp_t(N:Nat)(IH:TrpH N)(I:Gh)(v:V6)(x:IV)(hv:VIs I v x)(p:List PE)(pa:OA)(pc:Nat)(hf:Q0u I pa (p.flatMap Q0s))(hb:x.bulk<=N/\p.length+x.bulk<=2 ^ 30)(w:World)(hi:I.In w):
  Calls prog 33 #[v.agg,.slice pa p.length pc] w fun e w'=>∃(r:Value) (K:Gh),e=.returned r/\Step Nix I K w w'/\Q2i K r ((Q0f x.tr).map (p++·)):=by
 unfold V6.agg;refine Q0c (M:=Nix) hi ?_;intro W S;go_enter func33,ntmps33;go_wp2_with (first|refine wk ?_|refine Ws ?_;clear S;intro W S|refine wn ?_;clear S;intro b W S|refine Q0q (t:=49) (e:=79) S rf rf underlying49 kr 1 ?_;clear S;(try clear W);intro b W S)
 obtain⟨b0,hb0⟩:∃b0,b0=b:=⟨_,rfl⟩
 subst hb0;refine(Q7j hv om _ S.out.inw).mono ?_;rintro e W2 ⟨r,J,rfl,st,hr⟩;replace S:=Hd (S.out.call st);have hfJ:=hf.mono st.le;have htb:=Q2o x;have htok:=x.tr_ok;clear st hf hv;obtain⟨t,ht⟩:∃t,t=x.tr:=⟨_,rfl⟩
 rw[<-ht]at hr htb htok;have HT:=Hd ht;clear ht;obtain⟨a1,c1,a2,c2,vs,rfl,h1,h2,h3,h4,h5,h6⟩:=hr.kids;unfold V6.agg;by_cases hmap:t.isMap=true
 ·obtain⟨m,rfl⟩:=Q2q hmap;have hks:(Tr.map m).iv.ks=m.map (·.1):=by simp[Tr.iv,IV.ks]
  have hkl:(Tr.map m).iv.ks.length=m.length:=by rw[hks,length_map]
  have hil:(Tr.map m).kids.length=m.length:=by simp[Tr.kids]
  rw[hkl,hil];rw[hil]at h2;rw[hkl]at h5;have HK:=Hd (nd6 h1 h2 h3 h4 h6 (And.intro htok hr));have HB:=Hd htb;have hml:m.length<=2 ^ 30:=by have:=Z2d m;simp only[Tr.bulk]at htb;omega
  clear h1 h2 h3 h4 h5 h6 htok hr htb hks hkl hil;have h6:((Tr.map m).kind:Int)=6:=rfl;rw[h6];go_wp2_with (first|refine wk ?_|refine Ws ?_;clear S;intro W S|refine wn ?_;clear S;intro b W S|refine Q0q (t:=49) (e:=79) S rf rf underlying49 kr 1 ?_;clear S;(try clear W);intro b W S)
  go_loopg [5,6] m.length (fun g s5 s6 wr=>∃(i:Nat) (A:OA) (N c:Nat) (J':Gh) (vs':List Value),s5=.slice A N c/\s6=.int .i64 (i:Nat)/\i<=m.length/\g=m.length -i/\Hid (St Nix I J' w wr [(b0,[.int .i64 6,.int .i64 (Tr.map m).iv.n,.float .f64 (Tr.map m).iv.f,.string (Tr.map m).iv.s,.slice a1 m.length c1,.slice a2 m.length c2],35)] [⟨.slice A N c,79,1,N,vs'⟩])/\Hid (J.le J'/\All2 (Q2l J') vs' ((Q1u (m.take i)).map (p++·))))
  case atStart=>exact⟨0,_,_,_,J,[],rfl,rfl,Nat.zero_le _,rfl,S,⟨gR,.nil⟩⟩
  case round=>
   clear S;obtain⟨i,A,N',c,J',vs',rfl,rfl,hil,hg,S,HV⟩:=hrel;by_cases hlt:i<m.length
   ·obtain⟨⟨k,u⟩,hk⟩:∃q,m[i]?=some q:=gx hlt;have hkk:((Tr.map m).iv.ks)[i]?=some k:=by simp[Tr.iv,IV.ks,hk]
    have hku:(Tr.map m).kids[i]?=some u:=by simp[Tr.kids,hk]
    obtain⟨b1,o1,rfl,hkc⟩:∃b o,a1=some ⟨b,o,none⟩/\J'.cell ⟨b,o+i,none⟩ (.string k):=by
     rcases HK.out.1 with⟨_,e⟩|⟨b,o,e,h⟩
     ·rw[e]at hkk;simp at hkk
     ·exact⟨b,o,e,(h i k hkk).mono HV.out.1⟩
    obtain⟨b2,o2,ve,rfl,hse,hve⟩:∃b o ve,a2=some ⟨b,o,none⟩/\Six J' b (o+i*6) ve/\VIs J' ve u.iv:=by
     have hl:=HK.out.2.2.2.1.length;have hi2:i<vs.length:=by rw[hl];exact(List.getElem?_eq_some_iff.1 hku).1
     have hv0:vs[i]?=some vs[i]:=List.getElem?_eq_getElem hi2;have hvi:=HK.out.2.2.2.1.get hv0 hku;rcases HK.out.2.2.1 with⟨_,e⟩|⟨b,o,e,h⟩
     ·rw[e]at hi2;exact absurd hi2 (Nat.not_lt_zero _)
     ·exact⟨b,o,vs[i],e,(h i _ hv0).mono HV.out.1,hvi.mono HV.out.1⟩
    have hNb:N'<=2 ^ 30:=by
     have e1:=(S.out.row .head).1;have e2:=HV.out.2.length;have e3:=Z7d m i;have e4:=Z1a m;have e5:=HB.out;simp only[Tr.bulk]at e5;simp only[length_map]at e2;simp only at e1;omega
    have hbu:u.iv.bulk<N/\p.length+1+u.iv.bulk<=2 ^ 30/\(Q0f u).length<=2 ^ 30:=by
     have e1:=Q4i (List.mem_of_getElem? hk);have e2:=HB.out;have e3:=Z3k u;simp only[Tr.bulk]at e2;simp only at e1;rw[Q3s];omega
    have HU:=Hd (nd3 hbu (HK.out.2.2.2.2.2.1.field (List.mem_of_getElem? hk)) hk);have hfq:=Hd (hfJ.mono HV.out.1);clear hkk hku hbu hk;go_wp2_with (first|refine wl_loadG rf rf rf hkc S.out.inw kr ?_|refine wk ?_|refine Ws ?_;clear S;intro W S|refine wn ?_;clear S;intro b W S|refine Q0q (t:=49) (e:=79) S rf rf underlying49 kr 1 ?_;clear S;(try clear W);intro b W S)
    refine got S (X5q J' k) ?_;clear S;intro W3 S;go_wp2_with fail
    refine(under_x J' pa pc p k hfq.out om _ S.out.inw).mono ?_;rintro e W ⟨pv,J3,rfl,st,hpv⟩;replace S:=Hd (S.out.call st);obtain⟨q,hq⟩:∃q,q=p++[k]:=⟨_,rfl⟩
    rw[<-hq]at hpv;obtain⟨pa',pc',rfl,hp1,hp2,hpf⟩:=hpv;replace hse:=hse.mono st.le;have HV3:=Hd (And.intro (gT HV.out.1 st.le) (HV.out.2.imp fun _ _ k=>Q2l.mono k st.le));have IHu:Hid (∀W,J3.In W->Calls prog 33 #[.agg (L0a ve).toArray,.slice pa' q.length pc'] W fun e w'=>∃(a2':OA) (n2 c2':Nat) (vs2:List Value) (K2:Gh),e=.returned (.slice a2' n2 c2')/\Step Nix J3 K2 W w'/\Hid (vs2.length=n2/\n2<=2 ^ 30/\Q0u K2 a2' vs2/\All2 (Q2l K2) vs2 ((Q0f u).map (q++·)))):=fun W hW=>by
     refine(IH J3 ve u.iv (hve.mono st.le) q pa' pc' hpf ⟨HU.out.1.1,by rw[hq,List.length_append];simp only[length_cons,List.length_nil];exact HU.out.1.2.1⟩ W hW).mono ?_;rintro e w' ⟨r,K2,rfl,st2,a2',c2',vs2,rfl,g1,g2,g3,g4⟩;rw[Q9k HU.out.2.1]at g4⊢;refine⟨a2',_,c2',vs2,K2,rfl,st2,g4.length,?_,g3,g4⟩;rw[length_map];exact HU.out.1.2.2
    have HQ:=Hd (nd4 hq hpf hp1 hp2);clear st HV hq hpf hp1 hp2 hve;go_wp2_with fail
    go_region_held3 (fun W=>W.cell? ⟨b0,5,none⟩=some (.slice (some ⟨b2,o2,none⟩) m.length c2)/\W.cell? ⟨b2,o2+i*6,none⟩=some (.int .i64 ve.k)/\W.cell? ⟨b2,o2+i*6+1,none⟩=some (.int .i64 ve.n)/\W.cell? ⟨b2,o2+i*6+2,none⟩=some (.float .f64 ve.f)/\W.cell? ⟨b2,o2+i*6+3,none⟩=some (.string ve.s)/\W.cell? ⟨b2,o2+i*6+4,none⟩=some (.slice ve.a1 ve.n1 ve.c1)/\W.cell? ⟨b2,o2+i*6+5,none⟩=some (.slice ve.a2 ve.n2 ve.c2)) (first|exact⟨St.cellAt b0c b0a 5 rfl,(hse.mono (St.step b0c).le).at (St.inw b0c)⟩|exact⟨St.cellAt b0c b0a 5 rfl,((hse.mono hle.out).at (St.inw b0c))⟩|exact⟨St.cellAt b0c b0a 5 rfl,hse.at (St.inw b0c)⟩|go_keep) (first|(have q1:=HP2.out;have q2:=hN1.out;have q3:=X3l q1.2.2.2;refine X7u b0c rf _ rf rf rf (fun r=>[r]) (fun _=>.head) underlying49 in79 rfl b0t (q1.2.2.1.reads (by rw[q1.1,Nat.mul_one]) b0t (St.inw b0c)) q3 (by have:=q1.2.1;unfold maxLen;omega) (by have:=q1.2.1;omega) ?_;clear S q1 q2 q3;intro A2 N2 c2'' W hN2 S)|(refine X7u b0c rf _ rf rf rf (fun r=>[r]) (fun _=>.head) underlying49 in79 rfl b0t (St.reads b0c b0a 1 1 rfl) (by simp[Value.oneCell']) b0q om ?_;clear S;intro A1 N1 c1' W hN1 S)|(go_at_call 33;refine Q4a b0c ?_;clear S;intro S;refine(IHu.out _ S.out.inw).mono ?_;rintro e W ⟨a2',n2,c2',vs2,K2,rfl,st,HP2⟩;have hle:=Hd st.le;replace S:=Hd (S.out.call st);clear st));all_goals go_wp2_with fail
    all_goals
     go_roundg (m.length -(i+1))
     case measure=>omega
     case rel=>
      have hR:=HP2.out
      have e1:(Q1u (m.take (i+1))).map (p++·)=(Q1u (m.take i)).map (p++·)++([q]++(Q0f u).map (q++·)):=by
       rw[X4i m HU.out.2.2,List.map_append,HQ.out.1];simp
      refine⟨i+1,A2,N2,c2'',K2,_,rfl,rfl,by omega,rfl,S.out.pop,gT HV3.out.1 hle.out,?_⟩
      rw[e1,<-List.append_assoc]
      exact((HV3.out.2.imp fun _ _ k=>Q2l.mono k hle.out).append (.cons ⟨pa',pc',rfl,HQ.out.2.2.1,HQ.out.2.2.2,HQ.out.2.1.mono hle.out⟩ .nil)).append hR.2.2.2
   ·obtain rfl:i=m.length:=by omega
    go_wp2_with (first|refine wk ?_|refine Ws ?_;clear S;intro W S|refine wn ?_;clear S;intro b W S|refine Q0q (t:=49) (e:=79) S rf rf underlying49 kr 1 ?_;clear S;(try clear W);intro b W S)
    go_ret;obtain⟨K,a,c',hle,hv,g1,g2,hf,S4⟩:=S.out.rfreeze;have e1:N'=((Q0f (.map m)).map (p++·)).length:=by
     have e1:=(S.out.row .head).1;have e2:=HV.out.2.length;rw[List.take_length]at e2;simp only[Q0f]at e2⊢;simp only at e1;omega
    refine⟨_,K,rfl,S4.step,a,c',vs',by rw[<-HT.out,<-e1];exact hv,by rw[<-HT.out,<-e1];exact g1,g2,hf,?_⟩;rw[<-HT.out];have e2:=HV.out.2;rw[List.take_length]at e2;exact e2.imp fun _ _ k=>Q2l.mono k hle
 ·have hk:((t.kind:Int)==6)=false:=by cases t<;>first|rfl|(exact absurd rfl hmap)
  have hp0:Q0f t=[]:=by cases t<;>first|rfl|(exact absurd rfl hmap)
  clear h1 h2 h3 h4 h5 h6 htok hr htb;go_wp2_with (first|refine wk ?_|refine Ws ?_;clear S;intro W S|refine wn ?_;clear S;intro b W S|refine Q0q (t:=49) (e:=79) S rf rf underlying49 kr 1 ?_;clear S;(try clear W);intro b W S)
  go_loopg [5,6] 0 (fun g s5 s6 wr=>s5=.slice (some ⟨b,0,none⟩) 0 0/\s6=.int .i64 0/\W=wr)
  case atStart=>exact⟨rfl,rfl,rfl⟩
  case round=>
   obtain⟨rfl,rfl,rfl⟩:=hrel;go_wp2_with (first|refine wk ?_|refine Ws ?_;clear S;intro W S|refine wn ?_;clear S;intro b W S|refine Q0q (t:=49) (e:=79) S rf rf underlying49 kr 1 ?_;clear S;(try clear W);intro b W S)
   go_ret;obtain⟨K,a,c',hle,hv,g1,g2,hf,S4⟩:=S.out.rfreeze;refine⟨_,K,rfl,S4.step,a,c',[],?_,?_,g2,hf,?_⟩
   ·rw[<-HT.out,hp0];exact hv
   ·rw[<-HT.out,hp0];exact Nat.zero_le _
   ·rw[<-HT.out,hp0];exact .nil
theorem trp_all:∀N,TrpH N
 |0=>fun J v x _ p pa pc _ hb w _=>absurd hb.1 (Nat.not_lt_zero _)
 |N+1=>fun J v x hv p pa pc hf hb w hi=>trp_t N (trp_all N) J v x hv p pa pc hf ⟨Nat.le_of_lt_succ hb.1,hb.2⟩ w hi
theorem Z6r{v:V6}{x:IV}(hv:VIs J v x){p:List PE}{pa:OA}{pc:Nat}(hf:Q0u J pa (p.flatMap Q0s))(hb:p.length+x.bulk<=2 ^ 30)(w:World)(hi:J.In w):
  Calls prog 33 #[v.agg,.slice pa p.length pc] w fun e w'=>∃(r:Value) (K:Gh),e=.returned r/\Step Nix J K w w'/\Q2i K r ((Q0f x.tr).map (p++·)):=
 trp_all (x.bulk+1) J v x hv p pa pc hf ⟨Nat.lt_succ_self _,hb⟩ w hi
end
section
def lowP:List PE->PE->Nat
 |[],_=>0
 |a::r,e=>if plt a e=true then lowP r e+1 else 0
theorem Z4y:∀(l:List PE) (e:PE),lowP l e<=l.length
 |[],_=>Nat.le_refl _
 |a::r,e=>by
  unfold lowP;have:=Z4y r e;split<;>simp only[length_cons]<;>omega
theorem X4r:∀{l:List PE} (e:PE),Inc l->insL l e=if l[lowP l e]?=some e then l else l.take (lowP l e)++[e]++l.drop (lowP l e)
 |[],e,_=>by simp[insL,lowP]
 |a::r,e,h=>by
  unfold insL lowP;by_cases h1:plt a e=true
  ·have ih:=X4r e h.tail;simp only[h1,if_true,List.getElem?_cons_succ,List.take_succ_cons,List.drop_succ_cons];rw[ih];by_cases h2:r[lowP r e]?=some e
   ·simp[h2]
   ·simp[h2]
  ·simp only[h1,Bool.false_eq_true,if_false];by_cases h2:a=e
   ·simp[h2]
   ·simp[h2]
theorem Z5y:∀{ss:List PE} {key:PE},Inc ss->∀{j:Nat} {x:PE},ss[j]?=some x->(j<lowP ss key<->plt x key=true)
 |[],_,_,_,_,h=>by simp at h
 |a::r,key,hp,j,x,h=>by
  unfold lowP;cases j with
  |zero=>
   simp at h;subst h;by_cases h1:plt a key=true<;>simp[h1]
  |succ j=>
   simp only[List.getElem?_cons_succ]at h;have ih:=Z5y (key:=key) hp.tail h;have hax:=hp.lt (List.mem_of_getElem? h);by_cases h1:plt a key=true
   ·simp only[h1,if_true,Nat.add_lt_add_iff_right];exact ih
   ·simp only[h1,Bool.false_eq_true,if_false,Nat.not_lt_zero,false_iff];intro hx;exact h1 (Q3y hax hx)
theorem X0w{ss:List PE}{key:PE}(hp:Inc ss){i:Nat}(hi:i<=ss.length)(h1:∀j x,ss[j]?=some x->j<i->plt x key=true)(h2:∀j x,ss[j]?=some x->i<=j->plt x key=false):i=lowP ss key:=by
 have hle:=Z4y ss key;rcases Nat.lt_trichotomy i (lowP ss key)with h|h|h
 ·have hg:ss[i]?=some ss[i]:=List.getElem?_eq_getElem om;have:=(Z5y hp hg).1 h;rw[h2 i _ hg (Nat.le_refl _)]at this;cases this
 ·exact h
 ·have hg:ss[lowP ss key]?=some ss[lowP ss key]:=List.getElem?_eq_getElem om;have:=h1 _ _ hg h;exact absurd ((Z5y hp hg).2 this) (Nat.lt_irrefl _)
end
section
theorem St.but2{M:Nat->Prop}{I J:Gh}{w W V:World}{L:List Blk}{R:List Rw}{a b:Nat}(S:St M I J w W L R)(h:But2 a b W V)(ha:J a=Option.none)(hb:J b=Option.none)(ha0:w.heap.size<=a)(hb0:w.heap.size<=b)
  (hL:∀x∈L,x.1≠a/\x.1≠b)(hR:∀r∈R,∀g,r.v.ownBlock=some g->g≠a/\g≠b):St M I J w V L R:=by
 refine⟨⟨h.os.trans S.step.os,h.tape.trans S.step.tape,h.output.trans S.step.output,by have:=S.step.size;have:=h.size;omega,fun k hk hn=>(h.block k om om).trans (S.step.block k hk hn),S.step.le,S.step.old,fun k o e=>?_⟩,fun x hx=>⟨(S.own x hx).1.keep (h.block _ (hL x hx).1 (hL x hx).2),(S.own x hx).2⟩,S.nodup,fun r hr=>⟨Q1q (S.rows r hr).1 fun g hg=>h.block g (hR r hr g hg).1 (hR r hr g hg).2,(S.rows r hr).2⟩,S.rdis⟩;exact(h.block k (fun e2=>by rw[e2,ha]at e;cases e) (fun e2=>by rw[e2,hb]at e;cases e)).trans (S.inw k o e)
theorem Z2k(F:Nat)(caps:Array Value)(al:Addr)(r:Nat)(mv:KV)(J:Gh)(L:List Blk)(R:List Rw)(hM:J.map r mv)
  (hF:∀(args:Array Value) (w:World),(callFunc F args).run prog w=.ok (.enter F args) w)(hAK:∀s v,findK mv s=some v->∃k,AK v k)
  (Inv:(BA->Bool)->Gh->List Blk->List Rw->Prop)(h1:Inv (fun s=>(findK mv s).isSome) J L R)
  (hstep:∀left K L' R' s v vb,J.le K->Inv left K L' R'->s.size<=maxLen->left s=true->findK mv s=some v->
   Ac F ((L2t s vb).toArray++caps) K ((vb,[v],430)::L') R' fun u K2 L2 R2=>u=.bool true/\∃L3,L2=(vb,[v],430)::L3/\Inv (fun z=>left z&&!decide (z=s)) K2 L3 R2):
  Ac 513 #[.map (some r),.iface 340 (.pointer (some al)),.func (.func F) #[] caps] J L R fun u K L' R'=>u=.bool true/\∃left,(∀s,left s=false)/\Inv left K L' R':=by
 intro M I w W S;have hup:=S.out.step.size;refine(X1w F caps al r mv W (hM.at S.out.inw) (hM.lt S.out.inw) hF hAK
  (fun left V=>∃K L' R',J.le K/\Inv left K L' R'/\St M I K w V L' R'/\(∀x∈L',x.1≠W.heap.size/\x.1≠W.heap.size+1)/\(∀r∈R',∀g,r.v.ownBlock=some g->g≠W.heap.size/\g≠W.heap.size+1)/\K W.heap.size=none/\K (W.heap.size+1)=none)
  (fun V=>∃K L' R' left,J.le K/\(∀s,left s=false)/\Inv left K L' R'/\St M I K w V L' R') (fun _=>False) (fun V hV=>?_) (fun left V V' hI hb=>?_) (fun left V hI hl=>?_) (fun left V s v hI hs hl hf hvb hrb=>?_)).mono ?_
 ·refine⟨J,L,R,gR,h1,S.out.call (Step.of_below hV S.out.inw),fun x hx=>?_,fun q hq g hg=>?_,S.out.inw.none (Nat.le_refl _),S.out.inw.none (Nat.le_succ _)⟩
  ·have:=S.out.lt hx;exact⟨by omega,by omega⟩
  ·have:=S.out.rlt hq hg;exact⟨by omega,by omega⟩
 ·obtain⟨K,L',R',hle,hi,T,g1,g2,g3,g4⟩:=hI;exact⟨K,L',R',hle,hi,T.but2 hb g3 g4 hup om g1 g2,g1,g2,g3,g4⟩
 ·obtain⟨K,L',R',hle,hi,T,_⟩:=hI;exact⟨K,L',R',left,hle,hl,hi,T⟩
 ·obtain⟨K,L',R',hle,hi,T,g1,g2,g3,g4⟩:=hI;have T1:St M I K w V ((W.heap.size,[v],430)::L') R':=T.push hvb g3 (fun hlt=>absurd hlt om) (fun x hx=>(g1 x hx).1) (fun q hq e=>(g2 q hq _ e).1 rfl);have hnm:¬Mine ((W.heap.size,[v],430)::L') R' (W.heap.size+1):=by
   rintro(⟨x,hx,e⟩|⟨q,hq,hg⟩)
   ·rcases mem_cons.1 hx with rfl|hx
    ·simp at e
    ·exact(g1 x hx).2 e
   ·exact(g2 q hq _ hg).2 rfl
  refine(hstep left K L' R' s v W.heap.size hle hi hs hl hf _ _ _ _ (Hd T1.sub)).mono ?_;rintro e V' ⟨u,K2,L2,R2,rfl,hle2,⟨rfl,L3,rfl,hi2⟩,T2⟩;have T3:=St.back (L0:=[]) (R0:=[]) (by simpa using T1) T2;simp only[List.append_nil]at T3;obtain⟨o,ho,_⟩:=hM;refine⟨⟨(show V'.heap[W.heap.size]?=_ from(T2.own _ (mem_cons_self ..)).1).trans hvb.symm,T2.step.block _ hrb hnm,(T2.inw _ _ (hle2 _ _ (hle _ _ ho))).trans (T.inw _ _ (hle _ _ ho)).symm⟩,.inl ⟨rfl,K2,L3,R2,gT hle hle2,hi2,T3.pop,fun x hx=>⟨(List.pairwise_cons.1 T2.nodup).1 x hx |>.symm,fun e=>hnm ?_⟩,fun q hq g hg=>⟨fun e=>((T2.rows q hq).2 g hg).2.2 _ (mem_cons_self ..) e.symm,fun e=>hnm ?_⟩,(T2.own _ (mem_cons_self ..)).2.1,(T2.step.old _ hrb hnm).trans g4⟩⟩
  ·rw[<-e];exact(T2.own x (List.mem_cons_of_mem _ hx)).2.2 (by rw[e];exact hrb)
  ·rw[<-e];exact((T2.rows q hq).2 g hg).2.1 (by rw[e];exact hrb)
 ·rintro e W' (⟨rfl,K,L',R',left,hle,hl,hi,T⟩|⟨_,h⟩)
  ·exact⟨_,K,L',R',rfl,hle,⟨rfl,left,hl,hi⟩,T⟩
  ·exact h.elim
end
end Go.Proofs.YtbmklgemmjgjfaaGreat
