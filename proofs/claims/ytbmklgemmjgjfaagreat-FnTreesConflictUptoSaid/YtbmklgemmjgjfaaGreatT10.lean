/- Part 10: Wlk, EqB, EqS. -/
import Derived.Test.YtbmklgemmjgjfaaGreatT05
import Derived.Test.YtbmklgemmjgjfaaGreatT09
namespace Go.Proofs.YtbmklgemmjgjfaaGreat
open List (mem_cons mem_cons_of_mem mem_cons_self pairwise_cons)
open Go.RowKit Go.Maps Tryz
set_option linter.unusedVariables false
set_option linter.unusedSimpArgs false
set_option maxRecDepth 100000
set_option maxHeartbeats 8000000
section
def wlt:List PE->List PE->Bool
 |[],[]=>false
 |[],_::_=>true
 |_::_,[]=>false
 |a::p,b::q=>if a=b then wlt p q else if p.isEmpty != q.isEmpty then p.isEmpty else plt a b
theorem Q6g:∀p:List PE,wlt p p=false
 |[]=>rfl
 |a::p=>by rw[wlt,if_pos rfl];exact Q6g p
theorem X4t{p:List PE}(h:wlt p []=true):False:=by cases p<;>cases h
theorem Z5c:∀{p q:List PE},p≠q->wlt p q=true\/wlt q p=true
 |[],[],h=>absurd rfl h
 |[],_::_,_=>.inl rfl
 |_::_,[],_=>.inr rfl
 |a::p,b::q,h=>by
  unfold wlt;by_cases e:a=b
  ·subst e;rw[if_pos rfl,if_pos rfl];exact Z5c fun x=>h (by rw[x])
  ·rw[if_neg e,if_neg (Ne.symm e)];cases hp:p.isEmpty<;>cases hq:q.isEmpty<;>simp<;>exact Q7o e
theorem Q8d:∀{p q r:List PE},wlt p q=true->wlt q r=true->wlt p r=true
 |_,[],_,h,_=>(X4t h).elim
 |_,_,[],_,k=>(X4t k).elim
 |[],_::_,_::_,_,_=>rfl
 |a::p,b::q,c::r,h,k=>by
  have nn:∀{x y:List PE},wlt x y=true->y.isEmpty=false:=fun{x y} h=>by cases y with
   |nil=>exact(X4t h).elim
   |cons _ _=>rfl
  have en:∀{x y:List PE},x.isEmpty=true->y.isEmpty=false->wlt x y=true:=fun{x y} hx hy=>by
   cases x with
   |nil=>cases y with
    |nil=>cases hy
    |cons _ _=>rfl
   |cons _ _=>cases hx
  unfold wlt at h k⊢;by_cases e1:a=b
  ·subst e1;rw[if_pos rfl]at h;by_cases e2:a=c
   ·subst e2;rw[if_pos rfl]at k⊢;exact Q8d h k
   ·rw[if_neg e2]at k⊢;rw[nn h]at k;cases hp:p.isEmpty<;>cases hr:r.isEmpty<;>simp[hr]at k⊢<;>exact k
  ·rw[if_neg e1]at h;by_cases e2:b=c
   ·subst e2;rw[if_pos rfl]at k;rw[if_neg e1,nn k];cases hp:p.isEmpty<;>cases hq:q.isEmpty<;>simp[hp,hq]at h⊢<;>exact h
   ·rw[if_neg e2]at k;by_cases e3:a=c
    ·subst e3;rw[if_pos rfl];cases hp:p.isEmpty<;>cases hq:q.isEmpty<;>cases hr:r.isEmpty<;>simp[hp,hq,hr]at h k
     ·have:=X2v h;rw[k]at this;cases this
     ·exact en hp hr
     ·exact en hp hr
     ·have:=X2v h;rw[k]at this;cases this
    ·rw[if_neg e3];cases hp:p.isEmpty<;>cases hq:q.isEmpty<;>cases hr:r.isEmpty<;>simp[hp,hq,hr]at h k⊢<;>exact Q3y h k
def WS(l:List (List PE)):Prop:=l.Pairwise fun a b=>wlt a b=true
def wins:List (List PE)->List PE->List (List PE)
 |[],p=>[p]
 |q::l,p=>if wlt q p=true then q::wins l p else if q=p then q::l else p::q::l
def Q3d:List (List PE)->List (List PE)->List (List PE)
 |out,[]=>out
 |out,p::l=>Q3d (if p=[]then out else wins out p) l
theorem Z9c:∀(l:List (List PE)) (p q:List PE),q∈wins l p<->q=p\/q∈l
 |[],p,q=>by simp[wins]
 |a::l,p,q=>by
  unfold wins;by_cases h:wlt a p=true
  ·rw[if_pos h,mem_cons,Z9c l p q,mem_cons];constructor
   ·rintro(h|h|h)
    ·exact .inr (.inl h)
    ·exact .inl h
    ·exact .inr (.inr h)
   ·rintro(h|h|h)
    ·exact .inr (.inl h)
    ·exact .inl h
    ·exact .inr (.inr h)
  ·rw[if_neg h];by_cases e:a=p
   ·subst e;simp
   ·rw[if_neg e];simp
theorem ws_wins:∀(l:List (List PE)) (p:List PE),WS l->WS (wins l p)
 |[],p,_=>List.pairwise_singleton _ _
 |a::l,p,h=>by
  obtain⟨h1,h2⟩:=pairwise_cons.1 h;unfold wins;by_cases k:wlt a p=true
  ·rw[if_pos k];refine pairwise_cons.2 ⟨fun x hx=>?_,ws_wins l p h2⟩;rcases(Z9c l p x).1 hx with y|y
   ·rw[y];exact k
   ·exact h1 x y
  ·rw[if_neg k];by_cases e:a=p
   ·rw[if_pos e];exact h
   ·rw[if_neg e];have k2:=(Z5c e).resolve_left k;refine pairwise_cons.2 ⟨fun x hx=>?_,h⟩;rcases mem_cons.1 hx with y|y
    ·rw[y];exact k2
    ·exact Q8d k2 (h1 x y)
theorem Q6i:∀(l out:List (List PE)),WS out->WS (Q3d out l)/\∀q,q∈Q3d out l<->q∈out\/(q∈l/\q≠[])
 |[],out,h=>by rw[Q3d];exact⟨h,fun q=>by simp⟩
 |p::l,out,h=>by
  rw[Q3d];by_cases e:p=[]
  ·rw[if_pos e];obtain⟨h1,h2⟩:=Q6i l out h;refine⟨h1,fun q=>?_⟩;rw[h2];constructor
   ·rintro(x|⟨x,y⟩)
    ·exact .inl x
    ·exact .inr ⟨mem_cons_of_mem _ x,y⟩
   ·rintro(x|⟨x,y⟩)
    ·exact .inl x
    ·rcases mem_cons.1 x with z|z
     ·rw[z]at y;exact absurd e y
     ·exact .inr ⟨z,y⟩
  ·rw[if_neg e];obtain⟨h1,h2⟩:=Q6i l (wins out p) (ws_wins out p h);refine⟨h1,fun q=>?_⟩;rw[h2,Z9c];constructor
   ·rintro((x|x)|⟨x,y⟩)
    ·rw[x];exact .inr ⟨mem_cons_self ..,e⟩
    ·exact .inl x
    ·exact .inr ⟨mem_cons_of_mem _ x,y⟩
   ·rintro(x|⟨x,y⟩)
    ·exact .inl (.inr x)
    ·rcases mem_cons.1 x with z|z
     ·exact .inl (.inl z)
     ·exact .inr ⟨z,y⟩
theorem ws_ext:∀{a b:List (List PE)},WS a->WS b->(∀q,q∈a<->q∈b)->a=b
 |[],[],_,_,_=>rfl
 |[],y::b,_,_,h=>absurd ((h y).2 (mem_cons_self ..)) b0f
 |x::a,[],_,_,h=>absurd ((h x).1 (mem_cons_self ..)) b0f
 |x::a,y::b,ha,hb,h=>by
  obtain⟨a1,a2⟩:=pairwise_cons.1 ha;obtain⟨b1,b2⟩:=pairwise_cons.1 hb;have e:x=y:=by
   rcases mem_cons.1 ((h x).1 (mem_cons_self ..))with u|u
   ·exact u
   ·rcases mem_cons.1 ((h y).2 (mem_cons_self ..))with v|v
    ·exact v.symm
    ·have:=Q8d (a1 y v) (b1 x u);rw[Q6g]at this;cases this
  subst e;refine congrArg (x::·) (ws_ext a2 b2 fun q=>?_);constructor
  ·intro hq;rcases mem_cons.1 ((h q).1 (mem_cons_of_mem _ hq))with u|u
   ·subst u;have:=a1 q hq;rw[Q6g]at this;cases this
   ·exact u
  ·intro hq;rcases mem_cons.1 ((h q).2 (mem_cons_of_mem _ hq))with u|u
   ·subst u;have:=b1 q hq;rw[Q6g]at this;cases this
   ·exact u
theorem setOf_ext{a b:List (List PE)}(h:∀q,q≠[]->(q∈a<->q∈b)):Q3d [] a=Q3d [] b:=by
 obtain⟨a1,a2⟩:=Q6i a [] List.Pairwise.nil;obtain⟨b1,b2⟩:=Q6i b [] List.Pairwise.nil;refine ws_ext a1 b1 fun q=>?_;rw[a2,b2];constructor
 ·rintro(x|⟨x,y⟩)
  ·exact .inl x
  ·exact .inr ⟨(h q y).1 x,y⟩
 ·rintro(x|⟨x,y⟩)
  ·exact .inl x
  ·exact .inr ⟨(h q y).2 x,y⟩
end
section
theorem eq_bool(I:Gh)(a:Bool){y:Value}{u:Tr}(hy:Q0r I y u)(al:Addr)(b c:Nat)(w:World)(hi:I.In w)
  (hb:w.cell? ⟨b,0,none⟩=some (.iface 4 (.bool a)))(hc:w.cell? ⟨c,0,none⟩=some y)(hbl:b<w.heap.size)(hcl:c<w.heap.size):
  Calls prog 129 #[.iface 340 (.pointer (some al)),.iface 339 (pt b),.iface 339 (pt c)] w (Got Nix I w (.bool (eqT (.bool a) u))):=by
 have hx:=AK.bool a;have hk:=hy.ak;cases hy;all_goals
  simp only[Tr.kind]at hk
  go_enter_defers func129,ntmps129
  go_wp2_with (refine qa ?_)
  refine⟨_,results_tmp rfl _ _ _,?_,?_⟩
  ·simp[eqT,feq,i2f,seq]
  ·exact e0g
end
section
theorem eq_str(I:Gh)(a:BA){y:Value}{u:Tr}(hy:Q0r I y u)(al:Addr)(b c:Nat)(w:World)(hi:I.In w)
  (hb:w.cell? ⟨b,0,none⟩=some (.iface 9 (.string a)))(hc:w.cell? ⟨c,0,none⟩=some y)(hbl:b<w.heap.size)(hcl:c<w.heap.size):
  Calls prog 129 #[.iface 340 (.pointer (some al)),.iface 339 (pt b),.iface 339 (pt c)] w (Got Nix I w (.bool (eqT (.str a) u))):=by
 have hx:=AK.str a;have hk:=hy.ak;cases hy;all_goals
  simp only[Tr.kind]at hk
  go_enter_defers func129,ntmps129
  go_wp2_with (refine qa ?_)
  refine⟨_,results_tmp rfl _ _ _,?_,?_⟩
  ·simp[eqT,feq,i2f,seq]
  ·exact e0g
end
end Go.Proofs.YtbmklgemmjgjfaaGreat
