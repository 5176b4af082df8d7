/- Part 16: Law, Rgn, App, Apk. -/
import Derived.Test.YtbmklgemmjgjfaaGreatT15
namespace Go.Proofs.YtbmklgemmjgjfaaGreat
open List (append_assoc)
open Go.RowKit Go.Maps Tryz
set_option linter.unusedVariables false
set_option linter.unusedSimpArgs false
set_option maxRecDepth 100000
set_option maxHeartbeats 400000
variable{a:Act}{o:Oper}{W:World}{P:Program}
section
class Nth (l:List Value) (j:Nat) (v:outParam Value):Prop where
 h:l[j]?=some v
instance {v:Value} {l:List Value}:Nth (v::l) 0 v:=⟨rfl⟩
instance {x v:Value} {l:List Value} {j:Nat} [i:Nth l j v]:Nth (x::l) (j+1) v:=⟨by simpa using i.h⟩
class Subl (l:List Value) (j n:Nat) (s:outParam (List Value)):Prop where
 h:Sub l j n s
instance {l:List Value}:Subl l 0 0 []:=⟨.nil⟩
instance {x:Value} {l s:List Value} {n:Nat} [i:Subl l 0 n s]:Subl (x::l) 0 (n+1) (x::s):=⟨.here i.h⟩
instance {x:Value} {l s:List Value} {j n:Nat} [i:Subl l j n s]:Subl (x::l) (j+1) n s:=⟨.skip i.h⟩
class SetF (l:List Value) (j:Nat) (vs:List Value) (l':outParam (List Value)):Prop where
 h:Q1w l j vs l'
instance {l:List Value}:SetF l 0 [] l:=⟨.nil⟩
instance {x v:Value} {l vs l':List Value} [i:SetF l 0 vs l']:SetF (x::l) 0 (v::vs) (v::l'):=⟨.here i.h⟩
instance {x:Value} {l vs l':List Value} {j:Nat} [i:SetF l j vs l']:SetF (x::l) (j+1) vs (x::l'):=⟨.skip i.h⟩
class Hs (L:List Blk) (b:Nat) (cs:outParam (List Value)) (t:outParam TypeId):Prop where
 h:Has L b cs t
instance {b:Nat} {cs:List Value} {t:TypeId} {L:List Blk}:Hs ((b,cs,.t t)::L) b cs t:=⟨.head⟩
instance (priority:=low) {b:Nat} {cs:List Value} {t:TypeId} {x:Blk} {L:List Blk} [i:Hs L b cs t]:Hs (x::L) b cs t:=⟨.tail i.h⟩
class Up (L:List Blk) (b:Nat) (new:List Value) (cs:outParam (List Value)) (t:outParam TypeId) (L':outParam (List Blk)):Prop where
 h:Upd L b cs t new L'
instance {b:Nat} {cs new:List Value} {t:TypeId} {L:List Blk}:Up ((b,cs,.t t)::L) b new cs t ((b,new,.t t)::L):=⟨.head⟩
instance (priority:=low) {b:Nat} {cs new:List Value} {t:TypeId} {x:Blk} {L L':List Blk} [i:Up L b new cs t L']:Up (x::L) b new cs t (x::L'):=⟨.tail i.h⟩
class Pick {α:Type} (L:List α) (L1:List α) (L0:outParam (List α)):Prop where
 h:(L1++L0).Perm L
class Sl {α:Type} (L:List α) (x:α) (L':outParam (List α)):Prop where
 h:(x::L').Perm L
instance {α:Type} {x:α} {L:List α}:Sl (x::L) x L:=⟨List.Perm.refl _⟩
instance (priority:=low) {α:Type} {x y:α} {L L':List α} [i:Sl L x L']:Sl (y::L) x (y::L'):=⟨(List.Perm.swap _ _ _).trans (i.h.cons _)⟩
instance (priority:=low) {α:Type} {x:α} {C L L':List α} [i:Sl L x L']:Sl (C++L) x (C++L'):=⟨(List.perm_middle.symm).trans (i.h.append_left _)⟩
class Sc {α:Type} (L:List α) (C:List α) (L':outParam (List α)):Prop where
 h:(C++L').Perm L
instance {α:Type} {C L:List α}:Sc (C++L) C L:=⟨List.Perm.refl _⟩
instance (priority:=low) {α:Type} {C:List α}:Sc C C []:=⟨by rw[List.append_nil]⟩
instance (priority:=low) {α:Type} {x:α} {C L L':List α} [i:Sc L C L']:Sc (x::L) C (x::L'):=⟨List.perm_middle.trans (i.h.cons _)⟩
instance (priority:=low) {α:Type} {D C L L':List α} [i:Sc L C L']:Sc (D++L) C (D++L'):=⟨by
 rw[<-append_assoc]
 exact((List.perm_append_comm.append_right L').trans (by rw[append_assoc])).trans (i.h.append_left D)⟩
instance {α:Type} {L:List α}:Pick L [] L:=⟨List.Perm.refl _⟩
instance {α:Type} {x:α} {L L' L1 L0:List α} [i:Sl L x L'] [j:Pick L' L1 L0]:Pick L (x::L1) L0:=⟨(j.h.cons _).trans i.h⟩
instance {α:Type} {C L L' L1 L0:List α} [i:Sc L C L'] [j:Pick L' L1 L0]:Pick L (C++L1) L0:=⟨by rw[append_assoc];exact(j.h.append_left C).trans i.h⟩
class Ldv (P:Program) (T:TypeId) (cs:List Value) (j:Nat) (v:outParam Value):Prop where
 h:∀{W:World} {b:Nat},(∀(i:Nat) u,cs[i]?=some u->W.cell? ⟨b,i,Option.none⟩=some u)->(loadVar T ⟨b,j,Option.none⟩).run P W=.ok v W
instance {P:Program} {T:TypeId} {cs sub:List Value} {j n:Nat} [i:Tsz P T n true] [k:Subl cs j n sub]:Ldv P T cs j (.agg sub.toArray):=⟨fun h=>Q3f i.a i.s (fun q u hq=>h (j+q) u (by
 have e:=k.h.eq.1;rw[<-e,List.getElem?_take]at hq;split at hq
 ·rwa [List.getElem?_drop]at hq
 ·cases hq)) k.h.eq.2⟩
instance {P:Program} {T:TypeId} {cs:List Value} {j:Nat} {v:Value} [i:Tsz P T 1 false] [k:Nth cs j v]:Ldv P T cs j v:=⟨fun h=>Q2m (h j v k.h) i.a⟩
variable{v:Value}
theorem Q4j{T:TypeId}{x:Operand}{ad:Addr}(ho:o.op=.load T x)(hx:a.eval x=.pointer (some ad))(h:(loadVar T ad).run P W=.ok v W):(execOp a.eval o).run P W=.ok (.value v) W:=by
 unfold execOp;simp only[ho,hx,Instr.loadAt,Instr.sureAddr,Sem.run_bind,Sem.run_pure,Result.andThen_ok,h]
theorem Q2h{Q:EAW}{K:AW}(h:(execOp a.eval o).run P W=.ok (.value v) W)(k:K (a.put o.dst v) W):o.wp P a W K Q:=by
 unfold Oper.wp;rw[h];exact k
instance (priority:=low) {α:Type} {C L L':List α} [i:Sc L C L']:Pick L C L':=⟨i.h⟩
section
variable{P:Program}{M:Nat->Prop}{I J:Gh}{w W:World}{L L' L0 L1:List Blk}{R R' R0 R1:List Rw}{ops:Array Oper}{rest:List Oper}{o:Oper}{a:Act}{Q:EAW}{K:AW}{b j n:Nat}{cs sub new old:List Value}{t T:TypeId}{x y:Operand}{v:Value}{g:Bool}
inductive Cls:Value->List Value->Prop
 |agg (l:List Value):Cls (.agg l.toArray) l
 |ptr (p:OA):Cls (.pointer p) [.pointer p]
 |int (k:IntKind) (n:Int):Cls (.int k n) [.int k n]
 |bool (b:Bool):Cls (.bool b) [.bool b]
 |str (s:BA):Cls (.string s) [.string s]
 |slice (p:OA) (n c:Nat):Cls (.slice p n c) [.slice p n c]
 |iface (t:TypeId) (v:Value):Cls (.iface t v) [.iface t v]
 |nilIface:Cls .nilIface [.nilIface]
 |nilFunc:Cls .nilFunc [.nilFunc]
 |func (f:Fn) (r c:Array Value):Cls (.func f r c) [.func f r c]
 |map (r:Option Nat):Cls (.map r) [.map r]
 |float (k:FloatKind) (n:Nat):Cls (.float k n) [.float k n]
theorem Cls.eq{v:Value}{l:List Value}(h:Cls v l):v.cells=l.toArray:=by cases h<;>rfl
theorem Z0s(S:Hid (St M I J w W L R))(hg:o.guard=none)(ho:o.op=.store T x y)(hx:a.eval x=.pointer (some ⟨b,j,Option.none⟩))(hy:Cls (a.eval y) sub)(h1:sub.all (fun u=>u.oneCell')=true)[i:Hs L b old t][k:SetF old j sub new][u:Up L b new old t L'][z:Tsz P T n g]
  (h:∀W',Hid (St M I J w W' L' R)->wpList P ops Q rest (a.put o.dst undef) W')(hn:sub.length=n:=by rfl):wpList P ops Q (o::rest) a W:=Q0l (Q0b hg _) fun _ hK=>Q9l S.out ho hx u.h (by rw[hy.eq]) (z.s.trans (by rw[hn])) k.h h1 fun W' S'=>hK _ _ (h W' S')
theorem wl_bx(S:Hid (St M I J w W L R))(hg:o.guard=none)(ho:o.op=.box T x)(hy:Cls (a.eval x) sub)
  (h:∀b W',Hid (St M I J w W' ((b,sub,.t T)::L) R)->wpList P ops Q rest (a.put o.dst (.pointer (some ⟨b,0,Option.none⟩))) W'):wpList P ops Q (o::rest) a W:=Q0l (Q0b hg _) fun _ hK=>by
 unfold Oper.wp execOp;simp only[ho,Sem.run_bind,X4l,Result.andThen_ok,hy.eq];exact hK _ _ (h _ _ (S.out.alloc _ rfl sub T))
theorem X4q(S:Hid (St M I J w W L R))(ho:o.op=.load T x)(hx:a.eval x=.pointer (some ⟨b,j,Option.none⟩))[i:Hs L b cs t][k:Ldv P T cs j v](h:K (a.put o.dst v) W):o.wp P a W K Q:=Q2h (Q4j ho hx (k.h fun q u hq=>(S.out.cell i.h q).trans hq)) h
theorem Q0y(S:Hid (St M I J w W L R))(ho:o.op=.store T x y)(hx:a.eval x=.pointer (some ⟨b,j,Option.none⟩))(hy:(a.eval y).cells=sub.toArray)(h1:sub.all (fun u=>u.oneCell')=true)[i:Hs L b old t][k:SetF old j sub new][u:Up L b new old t L'][z:Tsz P T n g]
  (h:∀W',Hid (St M I J w W' L' R)->K (a.put o.dst undef) W')(hn:sub.length=n:=by rfl):o.wp P a W K Q:=Q9l S.out ho hx u.h (by rw[hy]) (z.s.trans (by rw[hn])) k.h h1 fun W' S'=>h W' S'
theorem Q0j(S:Hid (St M I J w W L R))(ho:o.op=.store T x y)(hx:a.eval x=.pointer (some ⟨b,j,Option.none⟩))(hy:a.eval y=v)(h1:v.oneCell'=true)[i:Hs L b old t][k:SetF old j [v] new][u:Up L b new old t L'][z:Tsz P T 1 g]
  (h:∀W',Hid (St M I J w W' L' R)->K (a.put o.dst undef) W'):o.wp P a W K Q:=Q9l (sub:=[v]) S.out ho hx u.h (by rw[hy,Q5j h1]) z.s k.h (by simp[h1]) fun W' S'=>h W' S'
theorem Z6g(S:Hid (St M I J w W L R))(ho:o.op=.box T x)(hy:(a.eval x).cells=sub.toArray)
  (h:∀b W',Hid (St M I J w W' ((b,sub,.t T)::L) R)->K (a.put o.dst (.pointer (some ⟨b,0,Option.none⟩))) W'):o.wp P a W K Q:=by
 unfold Oper.wp execOp;simp only[ho,Sem.run_bind,X4l,Result.andThen_ok,hy];exact h _ _ (S.out.alloc _ rfl sub T)
theorem Q3c(S:Hid (St M I J w W L R))(ho:o.op=.alloc T)[i:Tze P T sub]
  (h:∀b W',Hid (St M I J w W' ((b,sub,.t T)::L) R)->K (a.put o.dst (.pointer (some ⟨b,0,Option.none⟩))) W'):o.wp P a W K Q:=by
 have key:∃z,(P.info? T).bind (·.zero)=some z/\z.cells=sub.toArray:=by
  rcases i.h with e|⟨v,e,h1,h2⟩
  ·exact⟨_,e,rfl⟩
  ·exact⟨v,h2,by rw[e,Q5j h1]⟩
 obtain⟨z,hz,e⟩:=key;unfold Oper.wp execOp;simp only[ho,Sem.run_bind,Z7q P W T z hz,Result.andThen_ok,e];exact h _ _ (S.out.alloc _ rfl sub T)
theorem Q1s{e:TypeId}{g':Bool}(S:Hid (St M I J w W L R))(ho:o.op=.buildSlice t 1 #[(0,x)])(ht:P.underlying t=some (.slice e))[i:Tze P e old][z:Tsz P e n g'](hy:(a.eval x).cells=sub.toArray)
  (h:∀b W',Hid (St M I J w W' ((b,sub,.t e)::L) R)->K (a.put o.dst (.slice (some ⟨b,0,Option.none⟩) 1 1)) W')(hn:sub.length=n:=by rfl)(h0:0<n:=by decide)(hs:n<=2 ^ 24:=by decide)(hz:old.length=n:=by rfl):o.wp P a W K Q:=by
 have key:∃z,(P.info? e).bind (·.zero)=some z/\z.cells.size=n:=by
  rcases i.h with e|⟨v,e,h1,h2⟩
  ·exact⟨_,e,by simpa[Value.cells]using hz⟩
  ·exact⟨v,h2,by rw[Q5j h1];rw[e]at hz;simpa using hz⟩
 obtain⟨zz,hz1,hz2⟩:=key;have hzi:(P.info? e).map (fun i=>(i.zero,i.size))=some (some zz,n):=by
  have h2:=z.s;cases hq:P.info? e with
  |none=>rw[hq]at h2;cases h2
  |some q=>
   rw[hq]at hz1 h2;have h3:q.zero=some zz:=hz1;have h4:q.size=n:=by simpa using h2
   simp[h3,h4]
 have e1:=Z8f P W t e (a.eval x) zz n ht hzi hz2 (by rw[hy];simpa using hn) h0 hs;unfold Oper.wp execOp;simp only[ho,Sem.run_bind];simp only[List.map_toArray,List.map_cons,List.map_nil]at e1⊢;rw[e1,hy];simp only[Result.andThen_ok];exact h _ _ (S.out.alloc _ rfl sub e)
theorem wl_load(S:Hid (St M I J w W L R))(hg:o.guard=none)(ho:o.op=.load T x)(hx:a.eval x=.pointer (some ⟨b,j,Option.none⟩))[i:Hs L b cs t][k:Ldv P T cs j v]
  (h:wpList P ops Q rest (a.put o.dst v) W):wpList P ops Q (o::rest) a W:=Q0l (Q0b hg _) fun _ hK=>X4q S ho hx (hK _ _ h)
theorem Q1a(hg:o.guard=none)(ho:o.op=.load T x)(hx:a.eval x=.pointer (some ⟨b,j,Option.none⟩))(hc:W.cell? ⟨b,j,Option.none⟩=some v)[z:Tsz P T 1 false]
  (h:wpList P ops Q rest (a.put o.dst v) W):wpList P ops Q (o::rest) a W:=Q0l (Q0b hg _) fun _ hK=>Q2h (Q4j ho hx (Q2m hc z.a)) (hK _ _ h)
theorem wl_store(S:Hid (St M I J w W L R))(hg:o.guard=none)(ho:o.op=.store T x y)(hx:a.eval x=.pointer (some ⟨b,j,Option.none⟩))(hy:(a.eval y).cells=sub.toArray)(h1:sub.all (fun u=>u.oneCell')=true)[i:Hs L b old t][k:SetF old j sub new][u:Up L b new old t L'][z:Tsz P T n g]
  (h:∀W',Hid (St M I J w W' L' R)->wpList P ops Q rest (a.put o.dst undef) W')(hn:sub.length=n:=by rfl):wpList P ops Q (o::rest) a W:=Q0l (Q0b hg _) fun _ hK=>Q0y S ho hx hy h1 (fun W' S'=>hK _ _ (h W' S')) hn
theorem Q7u(S:Hid (St M I J w W L R))(hg:o.guard=none)(ho:o.op=.store T x y)(hx:a.eval x=.pointer (some ⟨b,j,Option.none⟩))(hy:a.eval y=v)(h1:v.oneCell'=true)[i:Hs L b old t][k:SetF old j [v] new][u:Up L b new old t L'][z:Tsz P T 1 g]
  (h:∀W',Hid (St M I J w W' L' R)->wpList P ops Q rest (a.put o.dst undef) W'):wpList P ops Q (o::rest) a W:=Q0l (Q0b hg _) fun _ hK=>Q0j S ho hx hy h1 fun W' S'=>hK _ _ (h W' S')
theorem wl_boxN(S:Hid (St M I J w W L R))(hg:o.guard=none)(ho:o.op=.box T x)(hy:(a.eval x).cells=sub.toArray)
  (h:∀b W',Hid (St M I J w W' ((b,sub,.t T)::L) R)->wpList P ops Q rest (a.put o.dst (.pointer (some ⟨b,0,Option.none⟩))) W'):wpList P ops Q (o::rest) a W:=Q0l (Q0b hg _) fun _ hK=>Z6g S ho hy fun b W' S'=>hK _ _ (h b W' S')
theorem wl_boxV(S:Hid (St M I J w W L R))(hg:o.guard=none)(ho:o.op=.box T x)(hy:a.eval x=v)(h1:v.oneCell'=true)
  (h:∀b W',Hid (St M I J w W' ((b,[v],.t T)::L) R)->wpList P ops Q rest (a.put o.dst (.pointer (some ⟨b,0,Option.none⟩))) W'):wpList P ops Q (o::rest) a W:=wl_boxN S hg ho (by rw[hy,Q5j h1]) h
theorem wl_new0(S:Hid (St M I J w W L R))(hg:o.guard=none)(ho:o.op=.alloc T)[i:Tze P T sub]
  (h:∀b W',Hid (St M I J w W' ((b,sub,.t T)::L) R)->wpList P ops Q rest (a.put o.dst (.pointer (some ⟨b,0,Option.none⟩))) W'):wpList P ops Q (o::rest) a W:=Q0l (Q0b hg _) fun _ hK=>Q3c S ho fun b W' S'=>hK _ _ (h b W' S')
theorem Q9a{e:TypeId}{g':Bool}(S:Hid (St M I J w W L R))(hg:o.guard=none)(ho:o.op=.buildSlice t 1 #[(0,x)])(ht:P.underlying t=some (.slice e))[i:Tze P e old][z:Tsz P e n g'](hy:(a.eval x).cells=sub.toArray)
  (h:∀b W',Hid (St M I J w W' ((b,sub,.t e)::L) R)->wpList P ops Q rest (a.put o.dst (.slice (some ⟨b,0,Option.none⟩) 1 1)) W')(hn:sub.length=n:=by rfl)(h0:0<n:=by decide)(hs:n<=2 ^ 24:=by decide)(hz:old.length=n:=by rfl):wpList P ops Q (o::rest) a W:=Q0l (Q0b hg _) fun _ hK=>Q1s S ho ht hy (fun b W' S'=>hK _ _ (h b W' S')) hn h0 hs hz
theorem Q0a{f:FuncId}{args:Array Value}{Post:Value->Gh->List Blk->List Rw->Prop}{X:Ending->World->Prop}(S:Hid (St M I J w W L R))(h:Acts P f args J L1 R1 Post)[i:Pick L L1 L0][k:Pick R R1 R0]
  (c:∀r K L' R' W',J.le K->Post r K L' R'->Hid (St M I K w W' (L'++L0) (R'++R0))->X (.returned r) W'):Calls P f args W X:=Z7p S h i.h k.h c
theorem Lib.front(S:Hid (St M I J w W L R))(L1:List Blk)(R1:List Rw)[i:Pick L L1 L0][k:Pick R R1 R0]:Hid (St M I J w W (L1++L0) (R1++R0)):=S.out.perm i.h k.h
theorem rowne{r:Rw}(S:Hid (St M I J w W L R))(hh:Has L b cs t)(hr:RHas R r):r.v.ownBlock≠some b:=fun e=>((S.out.rows _ hr.mem).2 _ e).2.2 _ hh.mem rfl
theorem hc(S:Hid (St M I J w W L R))[i:Hs L b cs t][k:Nth cs j v]:W.cell? ⟨b,j,Option.none⟩=some v:=(S.out.cell i.h j).trans k.h
theorem keep(S:Hid (St M I J w W L R))[i:Pick L L1 L0][k:Pick R R1 R0]:St M I J w W L1 R1:=by
 have S1:St M I J w W (L1++L0) (R1++R0):=S.out.perm i.h k.h;have S2:St M I J w W (L0++L1) (R0++R1):=S1.perm List.perm_append_comm List.perm_append_comm;exact S2.dropL.dropR
theorem ap{r:Value}{Post:Value->Gh->List Blk->List Rw->Prop}{J0:Gh}(hle:J0.le J)(hp:Post r J L R)(S:St M I J w W L R):AP M I w J0 Post (.returned r) W:=⟨r,J,L,R,rfl,hle,hp,S⟩
end
end
section
def Vw(J:Gh)(L:List Blk)(R:List Rw)(W:World):Prop:=(∀x∈L,Z9g W x)/\(∀r∈R,W.ownsRow 0 r.e r.size r.v r.n r.xs)/\J.In W
class Part {α:Type} (l:List α) (L:List α):Prop where
 h:∀x∈l,x∈L
class Mem {α:Type} (x:α) (L:List α):Prop where
 h:x∈L
instance {α:Type} {x:α} {L:List α}:Mem x (x::L):=⟨List.mem_cons_self ..⟩
instance (priority:=low) {α:Type} {x y:α} {L:List α} [i:Mem x L]:Mem x (y::L):=⟨List.mem_cons_of_mem _ i.h⟩
instance (priority:=low) {α:Type} {x:α} {C L:List α} [i:Mem x L]:Mem x (C++L):=⟨List.mem_append_right _ i.h⟩
instance {α:Type} {L:List α}:Part ([]:List α) L:=⟨fun x h=>by cases h⟩
instance {α:Type} {x:α} {l L:List α} [i:Mem x L] [j:Part l L]:Part (x::l) L:=⟨fun y h=>by
 rcases List.mem_cons.1 h with rfl|h
 ·exact i.h
 ·exact j.h y h⟩
class OpN (l:List Oper) (i:Nat) (o:outParam Oper):Prop where
 h:l[i]?=some o
instance {o:Oper} {l:List Oper}:OpN (o::l) 0 o:=⟨rfl⟩
instance {x o:Oper} {l:List Oper} {i:Nat} [k:OpN l i o]:OpN (x::l) (i+1) o:=⟨by simpa using k.h⟩
class OpA (ops:Array Oper) (i:Nat) (o:outParam Oper):Prop where
 h:ops[i]?=some o
instance {l:List Oper} {i:Nat} {o:Oper} [k:OpN l i o]:OpA l.toArray i o:=⟨by simpa using k.h⟩
section
variable{P:Program}{md:Region.Mode}{ops:Array Oper}{Q:EAW}{S:World->Prop}{Z:List Nat}{J J0 I:Gh}{M:Nat->Prop}{w W:World}{L L1:List Blk}{R R1:List Rw}{o:Oper}{a:Act}{x:Operand}{T t:TypeId}{b j n:Nat}{cs sub:List Value}{v:Value}
theorem vw(h:Hid (St M I J w W L R))(hle:J0.le J)[i:Part L1 L][k:Part R1 R]:Vw J0 L1 R1 W:=⟨fun x hx=>(h.out.own x (i.h x hx)).1,fun r hr=>(h.out.rows r (k.h r hr)).1,h.out.inw.mono hle⟩
theorem vwd(h:Hid (St M I J w W L R))(hle:J0.le J)[i:Part L1 L][k:Part R1 R]:Vw J0 L1 R1 W.drew:=vw (Hd h.out.drew) hle
def YS(P:Program)(ops:Array Oper)(S:World->Prop):List Nat->Act->(Act->Prop)->Prop
 |[],a,k=>k a
 |i::is,a,k=>∃o v,ops[i]?=some o/\YieldsIf P ops S o v a/\YS P ops S is (a.put o.dst v) k
theorem YS.fin{k:Act->Prop}(h:k a):YS P ops S [] a k:=h
theorem YS.step{i:Nat}{is:List Nat}{k:Act->Prop}[ho:OpA ops i o](hy:YieldsIf P ops S o v a)(h:YS P ops S is (a.put o.dst v) k):YS P ops S (i::is) a k:=⟨o,v,ho.h,hy,h⟩
def chkT(md:Region.Mode)(ops:Array Oper)(Z:List Nat):List Nat->Array Bool->Bool
 |[],_=>true
 |i::is,listed=>Region.free md ops listed i&&((Region.ready md ops listed).contains i&&(waitsZ md ops Z i listed&&(Q7t Z listed&&chkT md ops Z is (listed.setIfInBounds i true))))
def Q5k(is:List Nat)(listed:Array Bool):Array Bool:=match is with
 |[]=>listed
 |i::is=>Q5k is (listed.setIfInBounds i true)
theorem X2c(hQ:∀c a d v w,Q (.panic c) (Act.put a d v) w->Q (.panic c) a w)(hs:Region.noSelect ops=true)(fuel:Nat):∀(is:List Nat) {listed:Array Bool} {a:Act} {W:World},chkT md ops Z is listed=true->S W->
  YS P ops S is a (fun a'=>Q0w P md ops Q S Z fuel (Q5k is listed) a' W)->Q0w P md ops Q S Z (fuel+is.length) listed a W
 |[],_,_,_,_,_,h=>h
 |i::is,listed,a,W,hc,hS,h=>by
  obtain⟨o,v,ho,hy,hk⟩:=h;unfold chkT at hc;simp only[Bool.and_eq_true]at hc;exact X5v ho hs hc.1 hc.2.1 hc.2.2.1 hc.2.2.2.1 (fun c a w=>hQ c a _ _ w) hy hS (X2c hQ hs fuel is hc.2.2.2.2 hS hk)
theorem region_go{id:Nat}(S:World->Prop)(Z:List Nat)(hm:P.follows .mixedOrders=true)(hs:Region.noSelect ops=true)(is:List Nat)(fuel:Nat)(hf:fuel+is.length=ops.size)(hc:chkT .any ops Z is (Array.replicate ops.size false)=true)(hS:S w.drew)
  (h:YS P ops S is a (fun a'=>Q0w P .any ops (NoPanic Q) S Z fuel (Q5k is (Array.replicate ops.size false)) a' w.drew)):(Code.region id ops true).wp P Q a w:=by
 refine wp_region_noPanic (X4z (Z:=Z) hm hS fun hS=>?_);have key:=X2c (fun _ _ _ _ _ h=>h) hs fuel is hc hS h;rwa [hf]at key
theorem Q0x{id:Nat}(S0:Hid (St M I J w W L R))(L1:List Blk)(R1:List Rw)(Z:List Nat)(is:List Nat)(fuel:Nat)(hm:P.follows .mixedOrders=true)(hs:Region.noSelect ops=true)(hf:fuel+is.length=ops.size)(hc:chkT .any ops Z is (Array.replicate ops.size false)=true)[i:Part L1 L][k:Part R1 R]
  (h:∀W',Hid (St M I J w W' L R)->YS P ops (Vw J L1 R1) is a (fun a'=>Q0w P .any ops (NoPanic Q) (Vw J L1 R1) Z fuel (Q5k is (Array.replicate ops.size false)) a' W')):(Code.region id ops true).wp P Q a W:=
 region_go (Vw J L1 R1) Z hm hs is fuel hf hc (vwd S0 gR) (h _ (Hd S0.out.drew))
theorem X7d(is:List Nat)(f2:Nat){i:Nat}{fuel:Nat}{listed:Array Bool}{W:World}(hr:Region.ready md ops listed=[i])[ho:OpA ops i o](hg:o.guard=none)(hQ:∀c a d v w,Q (.panic c) (Act.put a d v) w->Q (.panic c) a w)(hs:Region.noSelect ops=true)(hf:fuel=f2+is.length)(hc:chkT md ops Z is (listed.setIfInBounds i true)=true)
  (h:∀K:AW,Shut (∀a W,S W->YS P ops S is a (fun a'=>Q0w P md ops Q S Z f2 (Q5k is (listed.setIfInBounds i true)) a' W)->K a W)->Oper.wp P o a W K Q):Q0w P md ops Q S Z (fuel+1) listed a W:=by
 refine Q5n hr b0f (Q1o.held ho.h (fun K hK=>?_) Q1o.nil);rw[if_pos (Q0b hg _)];subst hf;exact h K fun a W hS hY=>hK a W hS fun _=>X2c hQ hs f2 is hc hS hY
theorem X6o{S':World->Prop}(hS:∀W,S' W->S W):∀(fuel:Nat) {listed:Array Bool} {a:Act} {W:World},Q0w P md ops Q S' Z fuel listed a W->Q0w P md ops Q S Z fuel listed a W
 |0,_,_,_,h=>h
 |fuel+1,_,_,_,h=>⟨h.1,fun i hi=>wpOp_mono (fun _ _ h'=>⟨fun hu=>hS _ (h'.1 hu),X6o hS fuel h'.2⟩) (h.2 i hi)⟩
theorem grows{K:Gh}(is:List Nat)(f2:Nat){fuel:Nat}{listed:Array Bool}{W:World}(S0:Hid (St M I K w W L R))(hle:J.le K)[i:Part L1 L][k:Part R1 R](hs:Region.noSelect ops=true)(hf:fuel=f2+is.length)(hc:chkT md ops Z is listed=true)
  (h:YS P ops (Vw K L1 R1) is a (fun a'=>Q0w P md ops (NoPanic Q) (Vw K L1 R1) Z f2 (Q5k is listed) a' W)):Q0w P md ops (NoPanic Q) (Vw J L1 R1) Z fuel listed a W:=by
 refine X6o (S':=Vw K L1 R1) (fun W hW=>⟨hW.1,hW.2.1,hW.2.2.mono hle⟩) fuel ?_;subst hf;exact X2c (fun _ _ _ _ _ h=>h) hs f2 is hc (vw S0 gR) h
theorem closes{i:Nat}{fuel:Nat}{listed:Array Bool}{W:World}(hr:Region.ready md ops listed=[i])[ho:OpA ops i o](hg:o.guard=none)(hz:Q7t Z (listed.setIfInBounds i true)=false)(hd:Region.ready md ops (listed.setIfInBounds i true)=[])
  (h:∀K:AW,Shut (∀a W,Q .normal a W->K a W)->Oper.wp P o a W K Q):Q0w P md ops Q S Z (fuel+1) listed a W:=by
 refine Q5n hr b0f (Q1o.shut ho.h hz (fun K hK=>?_) Q1o.nil);rw[if_pos (Q0b hg _)];exact h K fun a W hQ=>hK a W (Z6j hd hQ _)
theorem ends{fuel:Nat}{listed:Array Bool}{W:World}(hd:Region.ready md ops listed=[])(h:Q .normal a W):Q0w P md ops (NoPanic Q) S Z fuel listed a W:=Z6j hd (NoPanic.normal h) _
theorem y_at(hw:Region.wanted o (yielded ops a.tmps)=true)(h:∀W,S W->(execOp a.eval o).run P W=.ok (.value v) W):YieldsIf P ops S o v a:=.inl ⟨hw,h⟩
theorem Q1t(hg:o.guard=none)(ho:o.op=.load T x)(hx:a.eval x=.pointer (some (ad b j)))[i:Hs L b cs t][k:Ldv P T cs j v]:YieldsIf P ops (Vw J L R) o v a:=
 y_at (Q0b hg _) fun W hW=>Q4j ho hx (k.h fun q u hq=>by
  have h0:W.heap[b]?=some (.cells cs.toArray t (0,0)):=hW.1 _ i.h.mem;have:=Q0e h0 q;rw[this];simpa using hq)
theorem y_cells(hg:o.guard=none)(ho:o.op=.load T x)(hx:a.eval x=.pointer (some (ad b j)))[z:Tsz P T n true](hn:sub.length=n)(hc:∀W,S W->∀(i:Nat) u,sub[i]?=some u->W.cell? (ad b (j+i))=some u)(hv:Value.agg sub.toArray=v):YieldsIf P ops S o v a:=
 y_at (Q0b hg _) fun W hW=>by rw[<-hv];exact Q4j ho hx (Q3f z.a z.s (hc W hW) hn)
theorem Q5w(hg:o.guard=none)(ho:o.op=.load T x)(hx:a.eval x=.pointer (some (ad b j)))[z:Tsz P T 1 false]{u:Value}(hc:∀W,S W->W.cell? (ad b j)=some u)(hv:u=v):YieldsIf P ops S o v a:=
 y_at (Q0b hg _) fun W hW=>by rw[<-hv];exact Q4j ho hx (Q2m (hc W hW) z.a)
theorem res_cell{fn:Func}{p:Tmp}{ty:TypeId}(S:Hid (St M I J w W L R))(h:fn.results=#[.cell p ty]){tmps:Array Value}(hp:tmps.getD p undef=pt b)[i:Hs L b cs t][k:Ldv P ty cs 0 v]:(results fn tmps).run P W=.ok v W:=by
 have hp':tmps[p]?.getD undef=pt b:=by simpa using hp
 have hr:=k.h (W:=W) (b:=b) fun q u hq=>(S.out.cell i.h q).trans hq;simp[results,h,hp',asAddr,hr]
theorem X1h{fn:Func}{p q:Tmp}{ty:TypeId}{u:Value}(S:Hid (St M I J w W L R))(h:fn.results=#[.cell p ty,.tmp q]){tmps:Array Value}(hp:tmps.getD p undef=pt b)(hq:tmps.getD q undef=u)[i:Hs L b cs t][k:Ldv P ty cs 0 v]:(results fn tmps).run P W=.ok (.tuple #[v,u]) W:=by
 have hp':tmps[p]?.getD undef=pt b:=by simpa using hp
 have hr:=k.h (W:=W) (b:=b) fun q u hq=>(S.out.cell i.h q).trans hq;have hq':tmps[q]?.getD undef=u:=by simpa using hq
 simp[results,h,hp',asAddr,hr,hq']
end
section
variable{P:Program}{md:Region.Mode}{ops:Array Oper}{Q:EAW}{S:World->Prop}{Z:List Nat}{J I:Gh}{M:Nat->Prop}{w W:World}{L:List Blk}{R:List Rw}{o:Oper}{a:Act}
theorem Wr(is:List Nat)(f2 i:Nat){fuel:Nat}{listed:Array Bool}[ho:OpA ops i o]
  (h:∀K:AW,Shut (∀a W,S W->YS P ops S is a (fun a'=>Q0w P md ops (NoPanic Q) S Z f2 (Q5k is (listed.setIfInBounds i true)) a' W)->K a W)->Oper.wp P o a W K (NoPanic Q))
  (hr:Region.ready md ops listed=[i]:=by kernel_rfl)(hg:o.guard=none:=by rfl)(hs:Region.noSelect ops=true:=by kernel_rfl)(hf:fuel=f2+is.length:=by rfl)(hc:chkT md ops Z is (listed.setIfInBounds i true)=true:=by kernel_rfl):Q0w P md ops (NoPanic Q) S Z (fuel+1) listed a W:=
 X7d is f2 hr hg (fun _ _ _ _ _ h=>h) hs hf hc h
theorem WrA{is:List Nat}{f2 i fuel:Nat}{listed:Array Bool}[ho:OpA ops i o](_:Ar is f2 i)
  (h:∀K:AW,Shut (∀a W,S W->YS P ops S is a (fun a'=>Q0w P md ops (NoPanic Q) S Z f2 (Q5k is (listed.setIfInBounds i true)) a' W)->K a W)->Oper.wp P o a W K (NoPanic Q))
  (hr:Region.ready md ops listed=[i]:=by kernel_rfl)(hg:o.guard=none:=by rfl)(hs:Region.noSelect ops=true:=by kernel_rfl)(hf:fuel=f2+is.length:=by rfl)(hc:chkT md ops Z is (listed.setIfInBounds i true)=true:=by kernel_rfl):Q0w P md ops (NoPanic Q) S Z (fuel+1) listed a W:=
 X7d is f2 hr hg (fun _ _ _ _ _ h=>h) hs hf hc h
theorem En{fuel:Nat}{listed:Array Bool}(h:Q .normal a W)(hd:Region.ready md ops listed=[]:=by kernel_rfl):Q0w P md ops (NoPanic Q) S Z fuel listed a W:=ends hd h
theorem Rg{id:Nat}(S0:Hid (St M I J w W L R))(L1:List Blk)(R1:List Rw)(Z:List Nat)(is:List Nat)(fuel:Nat)[i:Part L1 L][k:Part R1 R]
  (h:∀W',Hid (St M I J w W' L R)->YS P ops (Vw J L1 R1) is a (fun a'=>Q0w P .any ops (NoPanic Q) (Vw J L1 R1) Z fuel (Q5k is (Array.replicate ops.size false)) a' W'))
  (hm:P.follows .mixedOrders=true:=by kernel_rfl)(hs:Region.noSelect ops=true:=by kernel_rfl)(hf:fuel+is.length=ops.size:=by rfl)(hc:chkT .any ops Z is (Array.replicate ops.size false)=true:=by kernel_rfl):(Code.region id ops true).wp P Q a W:=Q0x S0 L1 R1 Z is fuel hm hs hf hc h
end
theorem Hk{K:AW}{V:World->Prop}{Y:AW}(h:Y a W)(hKK:Shut (∀a W,V W->Y a W->K a W):=by first|exact hKK|exact hK)(hv:V W:=by exact vw S (by first|exact gR|(clear kQ;assumption)|assumption)):K a W:=hKK.out _ _ hv h
theorem Cl{P:Program}{md:Region.Mode}{ops:Array Oper}{Q:EAW}{S:World->Prop}{Z:List Nat}{o:Oper}(i:Nat){fuel:Nat}{listed:Array Bool}[ho:OpA ops i o]
  (h:∀K:AW,Shut (∀a W,NoPanic Q .normal a W->K a W)->Oper.wp P o a W K (NoPanic Q))(hr:Region.ready md ops listed=[i]:=by kernel_rfl)(hg:o.guard=none:=by rfl)(hz:Q7t Z (listed.setIfInBounds i true)=false:=by kernel_rfl)(hc:Region.ready md ops (listed.setIfInBounds i true)=[]:=by kernel_rfl):Q0w P md ops (NoPanic Q) S Z (fuel+1) listed a W:=closes hr hg hz hc h
end
section
section
variable{P:Program}{M:Nat->Prop}{I J:Gh}{w W:World}{L L':List Blk}{R R':List Rw}{ops:Array Oper}{rest:List Oper}{o:Oper}{a:Act}{Q:EAW}{K:AW}{b j N size bytes c m:Nat}{cs xs news:List Value}{t e:TypeId}{s x:Operand}{v z:Value}{A:OA}
theorem Z0t(S:Hid (St M I J w W L (⟨v,e,size,N,xs⟩::R)))(ho:o.op=.call {callee:=.builtin .append,args:=#[s,x],argTypes:=#[t,t]})(hs:a.eval s=v)(hx:a.eval x=.slice A m c)(ht:P.underlying t=some (.slice e))(hi:Inf P e z size bytes)(hr:Q4n W W.heap.size size A m news)
  (h1:∀u∈news,u.oneCell'=true)(hN:N+m<2 ^ 32)
  (h:∀A' c' W',Hid (St M I J w W' L (⟨.slice A' (N+m) c',e,size,N+m,xs++news⟩::R))->K (a.put o.dst (.slice A' (N+m) c')) W')(hzs:z.cells.size=size:=by rfl)(hsz:0<size:=by decide)(hby:bytes<=32768:=by decide):o.wp P a W K Q:=by
 obtain⟨i,g1,g2,g3,g4⟩:=hi.parts;exact wp_app S.out s ho hs hx (fun r=>r::R) (fun _=>.head) ht g1 g2 g3 g4 hzs hsz hr h1 b0q (by have:=Nat.mul_le_mul (Nat.le_of_lt hN) hby;omega) fun A' N' c' W' e S'=>by
  have e:=e.out;subst e;exact h A' c' W' (Hd S')
theorem Q1m(S:Hid (St M I J w W L (⟨v,e,size,N,xs⟩::R)))(ho:o.op=.call {callee:=.builtin .append,args:=#[s,x],argTypes:=#[t,t]})(hs:a.eval s=v)(hx:a.eval x=.slice (some (ad b 0)) 1 c)[i:Hs L b cs e](ht:P.underlying t=some (.slice e))(hi:Inf P e z size bytes)
  (h1:cs.all (fun u=>u.oneCell')=true)(hN:N+1<2 ^ 32)
  (h:∀A' c' W',Hid (St M I J w W' L (⟨.slice A' (N+1) c',e,size,N+1,xs++cs⟩::R))->K (a.put o.dst (.slice A' (N+1) c')) W')(hl:cs.length=size:=by rfl)(hzs:z.cells.size=size:=by rfl)(hsz:0<size:=by decide)(hby:bytes<=32768:=by decide):o.wp P a W K Q:=
 Z0t S ho hs hx ht hi (S.out.reads i.h 1 size (by rw[hl,Nat.one_mul])) (fun u hu=>List.all_eq_true.1 h1 u hu) hN h hzs hsz hby
theorem Q7e(S:Hid (St M I J w W L (⟨v,e,size,N,xs⟩::R)))(hg:o.guard=none)(ho:o.op=.call {callee:=.builtin .append,args:=#[s,x],argTypes:=#[t,t]})(hs:a.eval s=v)(hx:a.eval x=.slice (some (ad b 0)) 1 c)[i:Hs L b cs e](ht:P.underlying t=some (.slice e))(hi:Inf P e z size bytes)
  (h1:cs.all (fun u=>u.oneCell')=true)(hN:N+1<2 ^ 32)
  (h:∀A' c' W',Hid (St M I J w W' L (⟨.slice A' (N+1) c',e,size,N+1,xs++cs⟩::R))->wpList P ops Q rest (a.put o.dst (.slice A' (N+1) c')) W')(hl:cs.length=size:=by rfl)(hzs:z.cells.size=size:=by rfl)(hsz:0<size:=by decide)(hby:bytes<=32768:=by decide):wpList P ops Q (o::rest) a W:=
 Q0l (Q0b hg _) fun _ hK=>Q1m S ho hs hx ht hi h1 hN (fun A' c' W' S'=>hK _ _ (h A' c' W' S')) hl hzs hsz hby
theorem wl_frz(hw:Region.wanted o (yielded ops a.tmps)=true)(ho:o.op=.load t x)(hx:a.eval x=.pointer (some (ad b j)))(hc:J.cell (ad b j) v)(hi:J.In W)[k:Tsz P t 1 false]
  (h:wpList P ops Q rest (a.put o.dst v) W):wpList P ops Q (o::rest) a W:=Q0l hw fun _ hK=>Q2h (Q4j ho hx (Q2m (hc.at hi) k.a)) (hK _ _ h)
theorem X9l{n:Nat}{sub:List Value}(hg:o.guard=none)(ho:o.op=.load t x)(hx:a.eval x=.pointer (some (ad b j)))[k:Tsz P t n true](hn:sub.length=n)(hc:∀(i:Nat) u,sub[i]?=some u->J.cell (ad b (j+i)) u)(hi:J.In W)
  (h:wpList P ops Q rest (a.put o.dst (.agg sub.toArray)) W):wpList P ops Q (o::rest) a W:=Q0l (Q0b hg _) fun _ hK=>Q2h (Q4j ho hx (Q3f k.a k.s (fun i u hu=>(hc i u hu).at hi) hn)) (hK _ _ h)
theorem Q3v(hg:o.guard=none)(ho:o.op=.load t x)(hx:a.eval x=.pointer (some (ad b j)))[k:Tsz P t 1 false]{u:Value}(hc:J.cell (ad b j) u)(hv:u=v):YieldsIf P ops (Vw J L R) o v a:=
 y_at (Q0b hg _) fun W hW=>by rw[<-hv];exact Q4j ho hx (Q2m (hc.at hW.2.2) k.a)
theorem Z0p{n:Nat}{sub:List Value}(hg:o.guard=none)(ho:o.op=.load t x)(hx:a.eval x=.pointer (some (ad b j)))[k:Tsz P t n true](hn:sub.length=n)(hc:∀(i:Nat) u,sub[i]?=some u->J.cell (ad b (j+i)) u)(hv:Value.agg sub.toArray=v):YieldsIf P ops (Vw J L R) o v a:=
 y_cells hg ho hx hn (fun W hW i u hu=>(hc i u hu).at hW.2.2) hv
end
variable{b j:Nat}{t:TypeId}{x:Operand}{R:List Rw}{L:List Blk}{w:World}{J I:Gh}{M:Nat->Prop}{Q:EAW}{rest:List Oper}{ops:Array Oper}
theorem wlf{v:Value}(hc:J.cell (ad b j) v)(S:Hid (St M I J w W L R))[k:Tsz P t 1 false]
  (h:wpList P ops Q rest (a.put o.dst v) W)(hw:Region.wanted o (yielded ops a.tmps)=true:=by first|exact Q0b rf _|exact X3r rf rf (by first|rfl|assumption))(ho:o.op=.load t x:=by rfl)(hx:a.eval x=.pointer (some (ad b j)):=by rfl):wpList P ops Q (o::rest) a W:=wl_frz hw ho hx hc S.out.inw h
theorem wlF{n:Nat}{sub:List Value}(hc:∀(i:Nat) u,sub[i]?=some u->J.cell (ad b (j+i)) u)(S:Hid (St M I J w W L R))[k:Tsz P t n true]
  (h:wpList P ops Q rest (a.put o.dst (.agg sub.toArray)) W)(hg:o.guard=none:=by rfl)(ho:o.op=.load t x:=by rfl)(hx:a.eval x=.pointer (some (ad b j)):=by rfl)(hn:sub.length=n:=by rfl):wpList P ops Q (o::rest) a W:=X9l hg ho hx hn hc S.out.inw h
end
section
variable{xs ys:List Value}{size g n m cap:Nat}{e:TypeId}
theorem own_shrink(h:W.ownsRow 0 e size (.slice (some (ad g 0)) m cap) m (xs++ys))(hn:n<=m)(hx:xs.length=n*size):W.ownsRow 0 e size (.slice (some (ad g 0)) n cap) n xs:=by
 refine⟨hx,?_⟩;rcases h.2 with⟨hh,_⟩|⟨g',cap',cur,hh,h0,hg,h1,h2,h3,h4⟩
 ·cases hh
 ·injection hh with e1 e2 e3;injection e1 with e1;injection e1 with e1;subst e1 e3;refine .inr ⟨g,cap,cur,rfl,h0,hg,by omega,h2,h3,?_⟩;have h5:(cur.toList.take (m*size)).take (n*size)=xs:=by rw[h4,<-hx,List.take_left]
  rw[List.take_take,Nat.min_eq_left (Nat.mul_le_mul_right _ hn)]at h5;exact h5
theorem St.shrink{M:Nat->Prop}{I J:Gh}{w:World}{L:List Blk}{R:List Rw}(S:St M I J w W L (⟨.slice (some ⟨g,0,Option.none⟩) m cap,e,size,m,xs++ys⟩::R))(hn:n<=m)(hx:xs.length=n*size):St M I J w W L (⟨.slice (some ⟨g,0,Option.none⟩) n cap,e,size,n,xs⟩::R):=by
 refine⟨S.step,S.own,S.nodup,fun r hr=>?_,List.pairwise_cons.2 ⟨fun s hs g' hg'=>(List.pairwise_cons.1 S.rdis).1 s hs g' hg',(List.pairwise_cons.1 S.rdis).2⟩⟩;rcases List.mem_cons.1 hr with rfl|hr
 ·have h0:=S.rows _ (List.mem_cons_self ..);exact⟨own_shrink h0.1 hn hx,fun g' hg'=>h0.2 g' hg'⟩
 ·exact S.rows r (List.mem_cons_of_mem _ hr)
def Back(r r':Rw)(E:List Rw):Prop:=∀{M:Nat->Prop} {I J:Gh} {w W:World} {L:List Blk} {R:List Rw},St M I J w W L (r'::(E++R))->St M I J w W L (r::R)
section
variable{P:Program}{M:Nat->Prop}{I J:Gh}{w W:World}{L L':List Blk}{R R':List Rw}{ops:Array Oper}{rest:List Oper}{o:Oper}{a:Act}{Q:EAW}{K:AW}{b N size bytes c:Nat}{cs xs:List Value}{t e:TypeId}{s x:Operand}{v z:Value}
theorem wq_appK(S:Hid (St M I J w W L (⟨v,e,size,N,xs⟩::R)))(ho:o.op=.call {callee:=.builtin .append,args:=#[s,x],argTypes:=#[t,t]})(hs:a.eval s=v)(hx:a.eval x=.slice (some (ad b 0)) 1 c)[k:Hs L b cs e](ht:P.underlying t=some (.slice e))(hi:Inf P e z size bytes)
  (h1:cs.all (fun u=>u.oneCell')=true)(hN:N+1<2 ^ 32)
  (h:∀A' c' E W',Back ⟨v,e,size,N,xs⟩ ⟨.slice A' (N+1) c',e,size,N+1,xs++cs⟩ E->Hid (St M I J w W' L (⟨.slice A' (N+1) c',e,size,N+1,xs++cs⟩::(E++R)))->K (a.put o.dst (.slice A' (N+1) c')) W')(hl:cs.length=size:=by rfl)(hzs:z.cells.size=size:=by rfl)(hsz:0<size:=by decide)(hby:bytes<=32768:=by decide):o.wp P a W K Q:=by
 obtain⟨i,g1,g2,g3,g4⟩:=hi.parts;subst g3 g4;have hown:=S.out.row .head;have hnews:∀j u,cs[j]?=some u->W.cell? (((ad b 0):Addr).add j)=some u:=fun j u hu=>by
  have ha:(Addr.add ⟨b,0,Option.none⟩ j)=⟨b,j,Option.none⟩:=by unfold Addr.add;split<;>simp_all
  rw[ha,S.out.cell k.h j];exact hu
 have hone:∀u∈cs,u.oneCell'=true:=fun u hu=>List.all_eq_true.1 h1 u hu;have hbytes:(N+1)*i.bytes<=140737488355328:=by have:=Nat.mul_le_mul (Nat.le_of_lt hN) hby;omega
 have fin:∀v' w',(Builtin.append_ #[t,t] o.type #[v,.slice (some (ad b 0)) 1 c]).run P W=.ok v' w'->K (a.put o.dst v') w'->o.wp P a W K Q:=fun v' w' hrun hK=>by
  unfold Oper.wp execOp;simp only[ho,resolve,invoke,builtin,Sem.run_bind,Sem.run_pure,Result.andThen_ok,List.map_toArray,List.map_cons,List.map_nil,hs,hx,hrun];exact hK
 have hlen:(xs++cs).length=(N+1)*i.size:=by rw[List.length_append,hown.1,hl,Nat.add_mul,Nat.one_mul]
 have made:∀(old:Nat),old<N+1->Hid (St M I J w (W.drew.alloc (.cells (xs.toArray++cs.toArray++Builtin.zeroCells z.cells (grownCap W (N+1) old e -(N+1))) e)) L (⟨.slice (some (ad W.heap.size 0)) (N+1) (grownCap W (N+1) old e),e,i.size,N+1,xs++cs⟩::([⟨v,e,i.size,N,xs⟩]++R))):=fun old ho'=>by
  have hge:=grownCap_ge W (N+1) old e;have hcm:grownCap W (N+1) old e<=maxLen:=grownCap_le_maxLen W (N+1) old e b0q;refine Hd (S.out.made ⟨hlen,.inr ⟨W.heap.size,_,_,rfl,Nat.zero_le _,heap_alloc_new W.drew _,hge,hcm,?_,?_⟩⟩ ⟨rfl,rfl,rfl,by simp,fun q hq _=>heap_alloc_old W.drew _ (by exact hq)⟩ (fun g hg=>(Option.some.inj hg).symm))
  ·simp only[Array.size_append,List.size_toArray,size_zeroCells,hzs,hown.1,hl];rw[show N*i.size+i.size=(N+1)*i.size by rw[Nat.add_mul,Nat.one_mul],<-Nat.add_mul];congr 1;omega
  ·simp only[Array.toList_append,List.append_assoc];rw[<-List.append_assoc,<-hlen];exact List.take_left
 dsimp only at hown;rcases hown.2 with⟨rfl,rfl⟩|⟨g,cap,cur,rfl,hbg,hg,hnc,hcm,hcs,htake⟩
 ·have hx0:xs=[]:=List.eq_nil_of_length_eq_zero (by simpa using hown.1);subst hx0;have hr:=run_append_nil (P:=P) W t o.type e i z ht g1 g2 (ad b 0) 1 c cs (by rw[hl,Nat.one_mul]) hnews om om om;have hm:=made 0 om;simp only[Nat.zero_add,List.nil_append,Array.empty_append]at hr hm h;exact fin _ _ hr (h _ _ _ _ (fun T=>T.rpop) hm)
 ·by_cases hroom:N+1<=cap
  ·obtain⟨w',hr,h2,h3⟩:=run_append_fits (P:=P) W 0 t o.type e i i.size ht g1 rfl g N cap xs hown (ad b 0) 1 c cs (by rw[hl,Nat.one_mul]) hnews hone hroom;refine fin _ _ hr (h _ _ [] _ (fun T=>T.shrink (Nat.le_succ N) hown.1) (Hd ?_));exact S.out.grow (r':=⟨.slice (some (ad g 0)) (N+1) cap,e,i.size,N+1,xs++cs⟩) .head h2 h3 (.inl rfl)
  ·have holds:∀j u,xs[j]?=some u->W.cell? (((ad g 0):Addr).add j)=some u:=hown.cells (g:=g) rfl;have hr:=run_append_grow (P:=P) W t o.type e i z ht g1 g2 (ad g 0) N cap xs hown.1 holds (ad b 0) 1 c cs (by rw[hl,Nat.one_mul]) hnews om om (growslice_fits om hbytes);exact fin _ _ hr (h _ _ _ _ (fun T=>T.rpop) (made cap om))
end
end
end Go.Proofs.YtbmklgemmjgjfaaGreat
