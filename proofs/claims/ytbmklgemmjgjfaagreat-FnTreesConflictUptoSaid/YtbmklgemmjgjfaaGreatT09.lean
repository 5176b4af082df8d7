/- Part 9: Fst. -/
import Derived.Test.YtbmklgemmjgjfaaGreatT03
namespace Go.Proofs.YtbmklgemmjgjfaaGreat
open List (mem_append mem_cons mem_cons_of_mem mem_cons_self mem_map pairwise_cons)
open Go.RowKit Go.Maps Tryz
set_option linter.unusedVariables false
set_option linter.unusedSimpArgs false
set_option maxRecDepth 100000
set_option maxHeartbeats 400000
section
abbrev PE:=BA
def plt(a b:PE):Bool:=klt a b
theorem Q8a(a:PE):plt a a=false:=Q2r a
variable{a b k:PE}
theorem Q3y{c:PE}(h:plt a b=true)(k:plt b c=true):plt a c=true:=Q2g h k
theorem Q7o(h:a≠b):plt a b=true\/plt b a=true:=Q5r h
theorem Z6x(h:plt a b=true):a≠b:=Q7a h
theorem X2v(h:plt a b=true):plt b a=false:=X3h h
theorem Q8u(h:plt a b=false)(k:plt b a=false):a=b:=by
 by_cases e:a=b
 ·exact e
 ·rcases Q7o e with x|x
  ·rw[h]at x;cases x
  ·rw[k]at x;cases x
def Inc(l:List PE):Prop:=l.Pairwise fun a b=>plt a b=true
inductive FS where
 |mk(m:List PE)(c:List (PE×FS))
def FS.nil:FS:=.mk [] []
def kid:List (PE×FS)->PE->Option FS
 |[],_=>none
 |(e,s)::c,k=>if e=k then some s else kid c k
def inL(m:List PE)(e:PE):Bool:=m.any fun x=>decide (x=e)
theorem Q4x{m:List PE}{e:PE}:inL m e=true<->e∈m:=by
 unfold inL;rw[List.any_eq_true];constructor
 ·rintro⟨x,hx,h⟩;rw[<-of_decide_eq_true h];exact hx
 ·intro h;exact⟨e,h,decide_eq_true rfl⟩
def FS.has:FS->List PE->Bool
 |_,[]=>false
 |.mk m _,[e]=>inL m e
 |.mk _ c,e::f::p=>match kid c e with
  |some s=>s.has (f::p)
  |none=>false
inductive FS.ok:FS->Prop
 |mk (m:List PE) (c:List (PE×FS)) (hm:Inc m) (hc:Inc (c.map (·.1))) (h:∀p,p∈c->FS.ok p.2):FS.ok (.mk m c)
theorem FS.ok.m{m:List PE}{c:List (PE×FS)}(h:FS.ok (.mk m c)):Inc m:=by cases h;assumption
theorem FS.ok.c{m:List PE}{c:List (PE×FS)}(h:FS.ok (.mk m c)):Inc (c.map (·.1)):=by cases h;assumption
variable{p:PE×FS}
theorem FS.ok.kid{m:List PE}{c:List (PE×FS)}(h:FS.ok (.mk m c))(hp:p∈c):p.2.ok:=by cases h with|mk _ _ _ _ h=>exact h p hp
theorem FS.ok_nil:FS.nil.ok:=.mk [] [] List.Pairwise.nil List.Pairwise.nil fun p h=>absurd h b0f

variable{s:FS}
theorem Q5t{c:List (PE×FS)}(h:kid c k=some s):(k,s)∈c:=by
 induction c with
 |nil=>cases h
 |cons p c ih=>
  obtain⟨e,u⟩:=p;unfold kid at h;by_cases x:e=k
  ·rw[if_pos x]at h;cases h;subst x;exact mem_cons_self ..
  ·rw[if_neg x]at h;exact mem_cons_of_mem _ (ih h)
theorem kid_of{c:List (PE×FS)}(hc:Inc (c.map (·.1)))(h:(k,s)∈c):kid c k=some s:=by
 induction c with
 |nil=>cases h
 |cons p c ih=>
  obtain⟨e,u⟩:=p;obtain⟨h1,h2⟩:=pairwise_cons.1 hc;unfold kid;rcases mem_cons.1 h with x|x
  ·cases x;simp
  ·rw[if_neg (Z6x (h1 k (mem_map.2 ⟨_,x,rfl⟩)))];exact ih h2 x
theorem X7j{c:List (PE×FS)}(h:∀x,x∈c.map (·.1)->x≠k):kid c k=none:=by
 induction c with
 |nil=>rfl
 |cons p c ih=>
  obtain⟨e,u⟩:=p;unfold kid;rw[if_neg (h e b0f),ih fun x hx=>h x (by simp at hx⊢;exact .inr hx)]

def Q3i:List PE->List PE->List PE
 |[],t=>t
 |a::s,[]=>a::s
 |a::s,b::t=>if plt a b=true then a::Q3i s (b::t)else if plt b a=true then b::Q3i (a::s) t else b::Q3i s t
 termination_by s t=>s.length+t.length
def Q3o:List PE->List PE->List PE
 |[],_=>[]
 |_::_,[]=>[]
 |a::s,b::t=>if plt a b=true then Q3o s (b::t)else if plt b a=true then Q3o (a::s) t else a::Q3o s t
 termination_by s t=>s.length+t.length
def Q5l:List PE->List PE->List PE
 |[],_=>[]
 |a::s,[]=>a::s
 |a::s,b::t=>if plt a b=true then a::Q5l s (b::t)else if plt b a=true then Q5l (a::s) t else Q5l s t
 termination_by s t=>s.length+t.length

theorem Inc.lt{s:List PE}(h:Inc (a::s)){x:PE}(hx:x∈s):plt a x=true:=(pairwise_cons.1 h).1 x hx
theorem Inc.tail{s:List PE}(h:Inc (a::s)):Inc s:=(pairwise_cons.1 h).2
theorem Inc.notin{s:List PE}(h:Inc (b::s))(hab:plt a b=true):a ∉ b::s:=by
 intro hx;rcases mem_cons.1 hx with e|e
 ·exact Z6x hab e
 ·have:=Q3y hab (h.lt e);rw[Q8a]at this;cases this

theorem Q5d:∀(s t:List PE),Inc s->Inc t->∀x,x∈Q3i s t<->x∈s\/x∈t
 |[],t,_,_,x=>by rw[Q3i];simp
 |a::s,[],_,_,x=>by rw[Q3i];simp
 |a::s,b::t,hs,ht,x=>by
  rw[Q3i];by_cases h1:plt a b=true
  ·rw[if_pos h1,mem_cons,Q5d s (b::t) hs.tail ht,mem_cons (l:=s)];simp[or_assoc]
  ·rw[if_neg h1];by_cases h2:plt b a=true
   ·rw[if_pos h2,mem_cons,Q5d (a::s) t hs ht.tail,mem_cons (l:=t)];constructor
    ·rintro(h|h|h)
     ·exact .inr (.inl h)
     ·exact .inl h
     ·exact .inr (.inr h)
    ·rintro(h|h|h)
     ·exact .inr (.inl h)
     ·exact .inl h
     ·exact .inr (.inr h)
   ·rw[if_neg h2,mem_cons,Q5d s t hs.tail ht.tail];have e:a=b:=Q8u b1g b1d;subst e;simp only[mem_cons];constructor
    ·rintro(h|h|h)
     ·exact .inl (.inl h)
     ·exact .inl (.inr h)
     ·exact .inr (.inr h)
    ·rintro((h|h)|h|h)
     ·exact .inl h
     ·exact .inr (.inl h)
     ·exact .inl h
     ·exact .inr (.inr h)
 termination_by s t=>s.length+t.length
theorem Q9t:∀(s t:List PE),Inc s->Inc t->Inc (Q3i s t)
 |[],t,_,h=>by rw[Q3i];exact h
 |a::s,[],h,_=>by rw[Q3i];exact h
 |a::s,b::t,hs,ht=>by
  rw[Q3i];by_cases h1:plt a b=true
  ·rw[if_pos h1];refine pairwise_cons.2 ⟨fun x hx=>?_,Q9t s (b::t) hs.tail ht⟩;rcases(Q5d s (b::t) hs.tail ht x).1 hx with h|h
   ·exact hs.lt h
   ·rcases mem_cons.1 h with e|e
    ·rw[e];exact h1
    ·exact Q3y h1 (ht.lt e)
  ·rw[if_neg h1];by_cases h2:plt b a=true
   ·rw[if_pos h2];refine pairwise_cons.2 ⟨fun x hx=>?_,Q9t (a::s) t hs ht.tail⟩;rcases(Q5d (a::s) t hs ht.tail x).1 hx with h|h
    ·rcases mem_cons.1 h with e|e
     ·rw[e];exact h2
     ·exact Q3y h2 (hs.lt e)
    ·exact ht.lt h
   ·rw[if_neg h2];have e:a=b:=Q8u b1g b1d;subst e;refine pairwise_cons.2 ⟨fun x hx=>?_,Q9t s t hs.tail ht.tail⟩;rcases(Q5d s t hs.tail ht.tail x).1 hx with h|h
    ·exact hs.lt h
    ·exact ht.lt h
 termination_by s t=>s.length+t.length
theorem Q7k:∀(s t:List PE),Inc s->Inc t->∀x,x∈Q3o s t<->x∈s/\x∈t
 |[],t,_,_,x=>by rw[Q3o];simp
 |a::s,[],_,_,x=>by rw[Q3o];simp
 |a::s,b::t,hs,ht,x=>by
  rw[Q3o];by_cases h1:plt a b=true
  ·rw[if_pos h1,Q7k s (b::t) hs.tail ht];constructor
   ·rintro⟨h,k⟩;exact⟨mem_cons_of_mem _ h,k⟩
   ·rintro⟨h,k⟩;rcases mem_cons.1 h with e|e
    ·subst e;exact absurd k (ht.notin h1)
    ·exact⟨e,k⟩
  ·rw[if_neg h1];by_cases h2:plt b a=true
   ·rw[if_pos h2,Q7k (a::s) t hs ht.tail];constructor
    ·rintro⟨h,k⟩;exact⟨h,mem_cons_of_mem _ k⟩
    ·rintro⟨h,k⟩;rcases mem_cons.1 k with e|e
     ·subst e;exact absurd h (hs.notin h2)
     ·exact⟨h,e⟩
   ·rw[if_neg h2,mem_cons,Q7k s t hs.tail ht.tail];have e:a=b:=Q8u b1g b1d;subst e;constructor
    ·rintro(h|⟨h,k⟩)
     ·subst h;simp
     ·exact⟨mem_cons_of_mem _ h,mem_cons_of_mem _ k⟩
    ·rintro⟨h,k⟩;rcases mem_cons.1 h with e|e
     ·exact .inl e
     ·rcases mem_cons.1 k with f|f
      ·exact .inl f
      ·exact .inr ⟨e,f⟩
 termination_by s t=>s.length+t.length
theorem Q9z:∀(s t:List PE),Inc s->Inc t->Inc (Q3o s t)
 |[],t,_,_=>by rw[Q3o];exact List.Pairwise.nil
 |a::s,[],_,_=>by rw[Q3o];exact List.Pairwise.nil
 |a::s,b::t,hs,ht=>by
  rw[Q3o];by_cases h1:plt a b=true
  ·rw[if_pos h1];exact Q9z s (b::t) hs.tail ht
  ·rw[if_neg h1];by_cases h2:plt b a=true
   ·rw[if_pos h2];exact Q9z (a::s) t hs ht.tail
   ·rw[if_neg h2];exact pairwise_cons.2 ⟨fun x hx=>hs.lt ((Q7k s t hs.tail ht.tail x).1 hx).1,Q9z s t hs.tail ht.tail⟩
 termination_by s t=>s.length+t.length
theorem Q9m:∀(s t:List PE),Inc s->Inc t->∀x,x∈Q5l s t<->x∈s/\x ∉ t
 |[],t,_,_,x=>by rw[Q5l];simp
 |a::s,[],_,_,x=>by rw[Q5l];simp
 |a::s,b::t,hs,ht,x=>by
  rw[Q5l];by_cases h1:plt a b=true
  ·rw[if_pos h1,mem_cons,Q9m s (b::t) hs.tail ht,mem_cons (l:=s)];constructor
   ·rintro(h|⟨h,k⟩)
    ·subst h;exact⟨.inl rfl,ht.notin h1⟩
    ·exact⟨.inr h,k⟩
   ·rintro⟨h|h,k⟩
    ·exact .inl h
    ·exact .inr ⟨h,k⟩
  ·rw[if_neg h1];by_cases h2:plt b a=true
   ·rw[if_pos h2,Q9m (a::s) t hs ht.tail];constructor
    ·rintro⟨h,k⟩;refine⟨h,fun hx=>?_⟩;rcases mem_cons.1 hx with e|e
     ·subst e;exact hs.notin h2 h
     ·exact k e
    ·rintro⟨h,k⟩;exact⟨h,fun hx=>k (mem_cons_of_mem _ hx)⟩
   ·rw[if_neg h2,Q9m s t hs.tail ht.tail];have e:a=b:=Q8u b1g b1d;subst e;constructor
    ·rintro⟨h,k⟩;refine⟨mem_cons_of_mem _ h,fun hx=>?_⟩;rcases mem_cons.1 hx with e|e
     ·subst e;have:=hs.lt h;rw[Q8a]at this;cases this
     ·exact k e
    ·rintro⟨h,k⟩;rcases mem_cons.1 h with e|e
     ·subst e;exact absurd (mem_cons_self ..) k
     ·exact⟨e,fun hx=>k (mem_cons_of_mem _ hx)⟩
 termination_by s t=>s.length+t.length
theorem Z2l:∀(s t:List PE),Inc s->Inc t->Inc (Q5l s t)
 |[],t,_,_=>by rw[Q5l];exact List.Pairwise.nil
 |a::s,[],h,_=>by rw[Q5l];exact h
 |a::s,b::t,hs,ht=>by
  rw[Q5l];by_cases h1:plt a b=true
  ·rw[if_pos h1];exact pairwise_cons.2 ⟨fun x hx=>hs.lt ((Q9m s (b::t) hs.tail ht x).1 hx).1,Z2l s (b::t) hs.tail ht⟩
  ·rw[if_neg h1];by_cases h2:plt b a=true
   ·rw[if_pos h2];exact Z2l (a::s) t hs ht.tail
   ·rw[if_neg h2];exact Z2l s t hs.tail ht.tail
 termination_by s t=>s.length+t.length

mutual
def FS.bare:FS->Bool
 |.mk m c=>m.isEmpty&&Z3b c
def Z3b:List (PE×FS)->Bool
 |[]=>true
 |(_,s)::c=>s.bare&&Z3b c
end
theorem X2d:∀{c:List (PE×FS)} {k:PE} {s:FS},Z3b c=true->kid c k=some s->s.bare=true
 |[],_,_,_,h=>by cases h
 |(e,u)::c,k,s,hb,h=>by
  simp only[Z3b,Bool.and_eq_true]at hb;unfold kid at h;by_cases x:e=k
  ·rw[if_pos x]at h;cases h;exact hb.1
  ·rw[if_neg x]at h;exact X2d hb.2 h
theorem Q6y:∀(p:List PE) {s:FS},s.bare=true->s.has p=false
 |[],.mk _ _,_=>rfl
 |[e],.mk m c,h=>by
  simp only[FS.bare,Bool.and_eq_true,List.isEmpty_iff]at h;rw[h.1];rfl
 |e::f::p,.mk m c,h=>by
  simp only[FS.bare,Bool.and_eq_true]at h;unfold FS.has;cases hk:kid c e with
  |none=>rfl
  |some s=>exact Q6y (f::p) (X2d h.2 hk)
mutual
theorem X6i:∀(s:FS),(∀p,s.has p=false)->s.ok->s.bare=true
 |.mk m c,h,ho=>by
  simp only[FS.bare,Bool.and_eq_true,List.isEmpty_iff];refine⟨List.eq_nil_iff_forall_not_mem.2 fun e he=>?_,X8p c (fun e s hs p=>?_) (fun p hp=>ho.kid hp)⟩
  ·have:=h [e];simp only[FS.has,Q4x.2 he]at this;cases this
  ·cases p with
   |nil=>cases s;rfl
   |cons f p=>
    have:=h (e::f::p);unfold FS.has at this;rw[kid_of ho.c hs]at this;exact this
theorem X8p:∀(c:List (PE×FS)),(∀e s,(e,s)∈c->∀p,s.has p=false)->(∀p,p∈c->FS.ok p.2)->Z3b c=true
 |[],_,_=>rfl
 |(e,s)::c,h,ho=>by
  simp only[Z3b,Bool.and_eq_true];exact⟨X6i s (h e s (mem_cons_self ..)) (ho _ (mem_cons_self ..)),X8p c (fun e s hs=>h e s (mem_cons_of_mem _ hs)) (fun p hp=>ho p (mem_cons_of_mem _ hp))⟩
end

mutual
def FS.inter:FS->FS->FS
 |.mk m c,.mk n d=>.mk (Q3o m n) (Q2j c d)
 termination_by s t=>SizeOf.sizeOf s+SizeOf.sizeOf t
def Q2j:List (PE×FS)->List (PE×FS)->List (PE×FS)
 |[],_=>[]
 |_::_,[]=>[]
 |(a,s)::c,(b,t)::d=>
  if plt a b=true then Q2j c ((b,t)::d)else if plt b a=true then Q2j ((a,s)::c) d
  else if(s.inter t).bare=true then Q2j c d else(a,s.inter t)::Q2j c d
 termination_by c d=>SizeOf.sizeOf c+SizeOf.sizeOf d
end
mutual
def FS.diff:FS->FS->FS
 |.mk m c,.mk n d=>.mk (Q5l m n) (Q4e c d)
 termination_by s t=>SizeOf.sizeOf s+SizeOf.sizeOf t
def Q4e:List (PE×FS)->List (PE×FS)->List (PE×FS)
 |[],_=>[]
 |p::c,[]=>p::c
 |(a,s)::c,(b,t)::d=>
  if plt a b=true then(a,s)::Q4e c ((b,t)::d)else if plt b a=true then Q4e ((a,s)::c) d
  else if(s.diff t).bare=true then Q4e c d else(a,s.diff t)::Q4e c d
 termination_by c d=>SizeOf.sizeOf c+SizeOf.sizeOf d
end
mutual
def FS.union:FS->FS->FS
 |.mk m c,.mk n d=>.mk (Q3i m n) (Q2k c d)
 termination_by s t=>SizeOf.sizeOf s+SizeOf.sizeOf t
def Q2k:List (PE×FS)->List (PE×FS)->List (PE×FS)
 |[],d=>d
 |p::c,[]=>p::c
 |(a,s)::c,(b,t)::d=>
  if plt a b=true then(a,s)::Q2k c ((b,t)::d)else if plt b a=true then(b,t)::Q2k ((a,s)::c) d
  else(a,s.union t)::Q2k c d
 termination_by c d=>SizeOf.sizeOf c+SizeOf.sizeOf d
end

def IncC(c:List (PE×FS)):Prop:=Inc (c.map (·.1))
theorem IncC.lt{c:List (PE×FS)}(h:IncC (p::c)){q:PE×FS}(hq:q∈c):plt p.1 q.1=true:=Inc.lt h (mem_map.2 ⟨q,hq,rfl⟩)
theorem IncC.tail{c:List (PE×FS)}(h:IncC (p::c)):IncC c:=(show Inc (p.1::c.map (·.1))from h).tail
theorem Q5i{c:List (PE×FS)}(h:IncC (p::c))(hk:plt k p.1=true):kid (p::c) k=none:=by
 refine X7j fun x hx e=>?_;subst e;exact(show Inc (p.1::c.map (·.1))from h).notin hk hx
theorem Q1d(a:PE)(s:FS)(c:List (PE×FS))(k:PE):kid ((a,s)::c) k=if a=k then some s else kid c k:=rfl
theorem Z1u{c:List (PE×FS)}(h:IncC ((a,s)::c)):kid c a=none:=by
 cases hk:kid c a with
 |none=>rfl
 |some u=>have:=h.lt (Q5t hk);rw[Q8a]at this;cases this

theorem Z0a:∀(c d:List (PE×FS)),IncC c->IncC d->∀k,kid (Q2j c d) k=match kid c k,kid d k with
  |some s,some t=>if(s.inter t).bare=true then none else some (s.inter t)
  |_,_=>none
 |[],d,_,_,k=>by rw[Q2j];rfl
 |(a,s)::c,[],_,_,k=>by rw[Q2j];cases kid ((a,s)::c) k<;>rfl
 |(a,s)::c,(b,t)::d,hc,hd,k=>by
  rw[Q2j];by_cases h1:plt a b=true
  ·rw[if_pos h1,Z0a c ((b,t)::d) hc.tail hd,Q1d a];by_cases e:a=k
   ·subst e;rw[if_pos rfl,Z1u hc,Q5i hd h1]
   ·rw[if_neg e]
  ·rw[if_neg h1];by_cases h2:plt b a=true
   ·rw[if_pos h2,Z0a ((a,s)::c) d hc hd.tail,Q1d b];by_cases e:b=k
    ·subst e;rw[if_pos rfl,Z1u hd,Q5i hc h2]
    ·rw[if_neg e]
   ·rw[if_neg h2];have e:a=b:=Q8u b1g b1d;subst e;rw[Q1d a s,Q1d a t];have ih:=Z0a c d hc.tail hd.tail k;by_cases e:a=k
    ·subst e;rw[Z1u hc]at ih;rw[if_pos rfl,if_pos rfl];by_cases hb:(s.inter t).bare=true
     ·rw[if_pos hb,ih];simp[hb]
     ·rw[if_neg hb,Q1d,if_pos rfl];simp[hb]
    ·rw[if_neg e,if_neg e];by_cases hb:(s.inter t).bare=true
     ·rw[if_pos hb,ih]
     ·rw[if_neg hb,Q1d,if_neg e,ih]
 termination_by c d=>c.length+d.length
theorem Q6j:∀(c d:List (PE×FS)) (q:PE×FS),q∈Q2j c d->(∃s,(q.1,s)∈c/\∃t,(q.1,t)∈d/\q.2=s.inter t)
 |[],d,q,h=>by rw[Q2j]at h;cases h
 |(a,s)::c,[],q,h=>by rw[Q2j]at h;cases h
 |(a,s)::c,(b,t)::d,q,h=>by
  rw[Q2j]at h;by_cases h1:plt a b=true
  ·rw[if_pos h1]at h;obtain⟨u,hu,v,hv,e⟩:=Q6j c ((b,t)::d) q h;exact⟨u,mem_cons_of_mem _ hu,v,hv,e⟩
  ·rw[if_neg h1]at h;by_cases h2:plt b a=true
   ·rw[if_pos h2]at h;obtain⟨u,hu,v,hv,e⟩:=Q6j ((a,s)::c) d q h;exact⟨u,hu,v,mem_cons_of_mem _ hv,e⟩
   ·rw[if_neg h2]at h;have e:a=b:=Q8u b1g b1d;subst e;split at h
    ·obtain⟨u,hu,v,hv,e⟩:=Q6j c d q h;exact⟨u,mem_cons_of_mem _ hu,v,mem_cons_of_mem _ hv,e⟩
    ·rcases mem_cons.1 h with e|h
     ·subst e;exact⟨s,mem_cons_self ..,t,mem_cons_self ..,rfl⟩
     ·obtain⟨u,hu,v,hv,e⟩:=Q6j c d q h;exact⟨u,mem_cons_of_mem _ hu,v,mem_cons_of_mem _ hv,e⟩
 termination_by c d=>c.length+d.length
theorem Q7r:∀(c d:List (PE×FS)),IncC c->IncC d->IncC (Q2j c d)
 |[],d,_,_=>by rw[Q2j];exact List.Pairwise.nil
 |(a,s)::c,[],_,_=>by rw[Q2j];exact List.Pairwise.nil
 |(a,s)::c,(b,t)::d,hc,hd=>by
  rw[Q2j];by_cases h1:plt a b=true
  ·rw[if_pos h1];exact Q7r c _ hc.tail hd
  ·rw[if_neg h1];by_cases h2:plt b a=true
   ·rw[if_pos h2];exact Q7r _ d hc hd.tail
   ·rw[if_neg h2];split
    ·exact Q7r c d hc.tail hd.tail
    ·refine pairwise_cons.2 ⟨fun x hx=>?_,Q7r c d hc.tail hd.tail⟩;obtain⟨q,hq,rfl⟩:=mem_map.1 hx;obtain⟨u,hu,_⟩:=Q6j c d q hq;exact hc.lt (q:=(q.1,u)) hu
 termination_by c d=>c.length+d.length
theorem X1l:∀(p:List PE) {s t:FS},s.ok->t.ok->(s.inter t).has p=(s.has p&&t.has p)
 |[],.mk _ _,.mk _ _,_,_=>by rw[FS.inter];rfl
 |[e],.mk m c,.mk n d,hs,ht=>by
  rw[FS.inter];simp only[FS.has];rw[Bool.eq_iff_iff,Bool.and_eq_true,Q4x,Q4x,Q4x,Q7k m n hs.m ht.m]
 |e::f::p,.mk m c,.mk n d,hs,ht=>by
  rw[FS.inter];unfold FS.has;rw[Z0a c d hs.c ht.c];cases h1:kid c e with
  |none=>rfl
  |some u=>
   cases h2:kid d e with
   |none=>simp
   |some v=>
    have ih:=X1l (f::p) (hs.kid (Q5t h1)) (ht.kid (Q5t h2));simp only;by_cases hb:(u.inter v).bare=true
    ·rw[Q6y (f::p) hb]at ih;rw[if_pos hb,<-ih]
    ·rw[if_neg hb,<-ih]
theorem Z2g(hs:s.ok):∀{t:FS},t.ok->(s.inter t).ok:=by
 induction hs with
 |mk m c hm hc h ih=>
  intro t ht;obtain⟨n,d⟩:=t;rw[FS.inter];refine .mk _ _ (Q9z m n hm ht.m) (Q7r c d hc ht.c) fun q hq=>?_;obtain⟨u,hu,v,hv,e⟩:=Q6j c d q hq;rw[e];exact ih _ hu (ht.kid hv)

theorem Z1y:∀(c d:List (PE×FS)),IncC c->IncC d->∀k,kid (Q4e c d) k=match kid c k,kid d k with
  |some s,some t=>if(s.diff t).bare=true then none else some (s.diff t)
  |o,_=>o
 |[],d,_,_,k=>by rw[Q4e];rfl
 |(a,s)::c,[],_,_,k=>by rw[Q4e];cases kid ((a,s)::c) k<;>rfl
 |(a,s)::c,(b,t)::d,hc,hd,k=>by
  rw[Q4e];by_cases h1:plt a b=true
  ·rw[if_pos h1,Q1d a,Z1y c ((b,t)::d) hc.tail hd,Q1d a];by_cases e:a=k
   ·subst e;rw[if_pos rfl,if_pos rfl,Q5i hd h1]
   ·rw[if_neg e,if_neg e]
  ·rw[if_neg h1];by_cases h2:plt b a=true
   ·rw[if_pos h2,Z1y ((a,s)::c) d hc hd.tail,Q1d b];by_cases e:b=k
    ·subst e;rw[if_pos rfl,Z1u hd,Q5i hc h2]
    ·rw[if_neg e]
   ·rw[if_neg h2];have e:a=b:=Q8u b1g b1d;subst e;rw[Q1d a s,Q1d a t];have ih:=Z1y c d hc.tail hd.tail k;by_cases e:a=k
    ·subst e;rw[Z1u hc]at ih;rw[if_pos rfl,if_pos rfl];by_cases hb:(s.diff t).bare=true
     ·rw[if_pos hb,ih];simp[hb]
     ·rw[if_neg hb,Q1d,if_pos rfl];simp[hb]
    ·rw[if_neg e,if_neg e];by_cases hb:(s.diff t).bare=true
     ·rw[if_pos hb,ih]
     ·rw[if_neg hb,Q1d,if_neg e,ih]
 termination_by c d=>c.length+d.length
theorem Q7y:∀(c d:List (PE×FS)) (q:PE×FS),q∈Q4e c d->(∃s,(q.1,s)∈c/\(q.2=s\/∃t,(q.1,t)∈d/\q.2=s.diff t))
 |[],d,q,h=>by rw[Q4e]at h;cases h
 |(a,s)::c,[],q,h=>by rw[Q4e]at h;exact⟨q.2,h,.inl rfl⟩
 |(a,s)::c,(b,t)::d,q,h=>by
  rw[Q4e]at h;by_cases h1:plt a b=true
  ·rw[if_pos h1]at h;rcases mem_cons.1 h with e|h
   ·subst e;exact⟨s,mem_cons_self ..,.inl rfl⟩
   ·obtain⟨u,hu,hv⟩:=Q7y c ((b,t)::d) q h;exact⟨u,mem_cons_of_mem _ hu,hv⟩
  ·rw[if_neg h1]at h;by_cases h2:plt b a=true
   ·rw[if_pos h2]at h;obtain⟨u,hu,hv⟩:=Q7y ((a,s)::c) d q h;exact⟨u,hu,hv.imp id fun⟨v,hv,e⟩=>⟨v,mem_cons_of_mem _ hv,e⟩⟩
   ·rw[if_neg h2]at h;have e:a=b:=Q8u b1g b1d;subst e;split at h
    ·exact e1l
    ·rcases mem_cons.1 h with e|h
     ·subst e;exact⟨s,mem_cons_self ..,.inr ⟨t,mem_cons_self ..,rfl⟩⟩
     ·exact e1l
 termination_by c d=>c.length+d.length
theorem Q8y:∀(c d:List (PE×FS)),IncC c->IncC d->IncC (Q4e c d)
 |[],d,_,_=>by rw[Q4e];exact List.Pairwise.nil
 |(a,s)::c,[],hc,_=>by rw[Q4e];exact hc
 |(a,s)::c,(b,t)::d,hc,hd=>by
  rw[Q4e];by_cases h1:plt a b=true
  ·rw[if_pos h1];refine pairwise_cons.2 ⟨fun x hx=>?_,Q8y c _ hc.tail hd⟩;obtain⟨q,hq,rfl⟩:=mem_map.1 hx;obtain⟨u,hu,_⟩:=Q7y c _ q hq;exact hc.lt (q:=(q.1,u)) hu
  ·rw[if_neg h1];by_cases h2:plt b a=true
   ·rw[if_pos h2];exact Q8y _ d hc hd.tail
   ·rw[if_neg h2];split
    ·exact Q8y c d hc.tail hd.tail
    ·refine pairwise_cons.2 ⟨fun x hx=>?_,Q8y c d hc.tail hd.tail⟩;obtain⟨q,hq,rfl⟩:=mem_map.1 hx;obtain⟨u,hu,_⟩:=Q7y c d q hq;exact hc.lt (q:=(q.1,u)) hu
 termination_by c d=>c.length+d.length
theorem X6s:∀(p:List PE) {s t:FS},s.ok->t.ok->(s.diff t).has p=(s.has p&&!t.has p)
 |[],.mk _ _,.mk _ _,_,_=>by rw[FS.diff];rfl
 |[e],.mk m c,.mk n d,hs,ht=>by
  rw[FS.diff];simp only[FS.has];rw[Bool.eq_iff_iff,Bool.and_eq_true,Bool.not_eq_true',Q4x,Q4x,Q9m m n hs.m ht.m,<-Bool.not_eq_true,Q4x]
 |e::f::p,.mk m c,.mk n d,hs,ht=>by
  rw[FS.diff];unfold FS.has;rw[Z1y c d hs.c ht.c];cases h1:kid c e with
  |none=>rfl
  |some u=>
   cases h2:kid d e with
   |none=>simp
   |some v=>
    have ih:=X6s (f::p) (hs.kid (Q5t h1)) (ht.kid (Q5t h2));simp only;by_cases hb:(u.diff v).bare=true
    ·rw[Q6y (f::p) hb]at ih;rw[if_pos hb,<-ih]
    ·rw[if_neg hb,<-ih]
theorem X5d(hs:s.ok):∀{t:FS},t.ok->(s.diff t).ok:=by
 induction hs with
 |mk m c hm hc h ih=>
  intro t ht;obtain⟨n,d⟩:=t;rw[FS.diff];refine .mk _ _ (Z2l m n hm ht.m) (Q8y c d hc ht.c) fun q hq=>?_;obtain⟨u,hu,e|⟨v,hv,e⟩⟩:=Q7y c d q hq
  ·rw[e];exact h _ hu
  ·rw[e];exact ih _ hu (ht.kid hv)

theorem Z0h:∀(c d:List (PE×FS)),IncC c->IncC d->∀k,kid (Q2k c d) k=match kid c k,kid d k with
  |some s,some t=>some (s.union t)
  |some s,none=>some s
  |none,o=>o
 |[],d,_,_,k=>by rw[Q2k];cases kid d k<;>rfl
 |(a,s)::c,[],_,_,k=>by rw[Q2k];cases kid ((a,s)::c) k<;>rfl
 |(a,s)::c,(b,t)::d,hc,hd,k=>by
  rw[Q2k];by_cases h1:plt a b=true
  ·rw[if_pos h1,Q1d a,Z0h c ((b,t)::d) hc.tail hd,Q1d a];by_cases e:a=k
   ·subst e;rw[if_pos rfl,if_pos rfl,Q5i hd h1]
   ·rw[if_neg e,if_neg e]
  ·rw[if_neg h1];by_cases h2:plt b a=true
   ·rw[if_pos h2,Q1d b,Z0h ((a,s)::c) d hc hd.tail,Q1d b];by_cases e:b=k
    ·subst e;rw[if_pos rfl,if_pos rfl,Q5i hc h2]
    ·rw[if_neg e,if_neg e]
   ·rw[if_neg h2];have e:a=b:=Q8u b1g b1d;subst e;rw[Q1d a s,Q1d a t,Q1d];by_cases e:a=k
    ·simp[e]
    ·rw[if_neg e,if_neg e,if_neg e,Z0h c d hc.tail hd.tail]
 termination_by c d=>c.length+d.length
theorem Q4z:∀(c d:List (PE×FS)) (q:PE×FS),q∈Q2k c d->q∈c\/q∈d\/∃s t,(q.1,s)∈c/\(q.1,t)∈d/\q.2=s.union t
 |[],d,q,h=>by rw[Q2k]at h;exact .inr (.inl h)
 |(a,s)::c,[],q,h=>by rw[Q2k]at h;exact .inl h
 |(a,s)::c,(b,t)::d,q,h=>by
  rw[Q2k]at h;by_cases h1:plt a b=true
  ·rw[if_pos h1]at h;rcases mem_cons.1 h with e|h
   ·exact .inl (by rw[e];exact mem_cons_self ..)
   ·rcases Q4z c ((b,t)::d) q h with h|h|⟨u,v,hu,hv,e⟩
    ·exact .inl (mem_cons_of_mem _ h)
    ·exact .inr (.inl h)
    ·exact .inr (.inr ⟨u,v,mem_cons_of_mem _ hu,hv,e⟩)
  ·rw[if_neg h1]at h;by_cases h2:plt b a=true
   ·rw[if_pos h2]at h;rcases mem_cons.1 h with e|h
    ·exact .inr (.inl (by rw[e];exact mem_cons_self ..))
    ·rcases Q4z ((a,s)::c) d q h with h|h|⟨u,v,hu,hv,e⟩
     ·exact .inl h
     ·exact .inr (.inl (mem_cons_of_mem _ h))
     ·exact .inr (.inr ⟨u,v,hu,mem_cons_of_mem _ hv,e⟩)
   ·rw[if_neg h2]at h;have e:a=b:=Q8u b1g b1d;subst e;rcases mem_cons.1 h with e|h
    ·exact .inr (.inr ⟨s,t,by rw[e];exact mem_cons_self ..,by rw[e];exact mem_cons_self ..,by rw[e]⟩)
    ·rcases Q4z c d q h with h|h|⟨u,v,hu,hv,e⟩
     ·exact .inl (mem_cons_of_mem _ h)
     ·exact .inr (.inl (mem_cons_of_mem _ h))
     ·exact .inr (.inr ⟨u,v,mem_cons_of_mem _ hu,mem_cons_of_mem _ hv,e⟩)
 termination_by c d=>c.length+d.length
theorem Q9w:∀(c d:List (PE×FS)),IncC c->IncC d->IncC (Q2k c d)
 |[],d,_,hd=>by rw[Q2k];exact hd
 |(a,s)::c,[],hc,_=>by rw[Q2k];exact hc
 |(a,s)::c,(b,t)::d,hc,hd=>by
  rw[Q2k];by_cases h1:plt a b=true
  ·rw[if_pos h1];refine pairwise_cons.2 ⟨fun x hx=>?_,Q9w c _ hc.tail hd⟩;obtain⟨q,hq,rfl⟩:=mem_map.1 hx;have hb:∀q,q∈(b,t)::d->plt a q.1=true:=fun q hq=>by
    rcases mem_cons.1 hq with e|e
    ·rw[e];exact h1
    ·exact Q3y h1 (hd.lt e)
   rcases Q4z c _ q hq with h|h|⟨u,v,hu,hv,e⟩
   ·exact hc.lt h
   ·exact hb q h
   ·exact hc.lt (q:=(q.1,u)) hu
  ·rw[if_neg h1];by_cases h2:plt b a=true
   ·rw[if_pos h2];refine pairwise_cons.2 ⟨fun x hx=>?_,Q9w _ d hc hd.tail⟩;obtain⟨q,hq,rfl⟩:=mem_map.1 hx;have hb:∀q,q∈(a,s)::c->plt b q.1=true:=fun q hq=>by
     rcases mem_cons.1 hq with e|e
     ·rw[e];exact h2
     ·exact Q3y h2 (hc.lt e)
    rcases Q4z _ d q hq with h|h|⟨u,v,hu,hv,e⟩
    ·exact hb q h
    ·exact hd.lt h
    ·exact hd.lt (q:=(q.1,v)) hv
   ·rw[if_neg h2];have e:a=b:=Q8u b1g b1d;subst e;refine pairwise_cons.2 ⟨fun x hx=>?_,Q9w c d hc.tail hd.tail⟩;obtain⟨q,hq,rfl⟩:=mem_map.1 hx;rcases Q4z c d q hq with h|h|⟨u,v,hu,hv,e⟩
    ·exact hc.lt h
    ·exact hd.lt h
    ·exact hc.lt (q:=(q.1,u)) hu
 termination_by c d=>c.length+d.length
theorem X2h:∀(p:List PE) {s t:FS},s.ok->t.ok->(s.union t).has p=(s.has p||t.has p)
 |[],.mk _ _,.mk _ _,_,_=>by rw[FS.union];rfl
 |[e],.mk m c,.mk n d,hs,ht=>by
  rw[FS.union];simp only[FS.has];rw[Bool.eq_iff_iff,Bool.or_eq_true,Q4x,Q4x,Q4x,Q5d m n hs.m ht.m]
 |e::f::p,.mk m c,.mk n d,hs,ht=>by
  rw[FS.union];unfold FS.has;rw[Z0h c d hs.c ht.c];cases h1:kid c e with
  |none=>cases kid d e<;>simp
  |some u=>
   cases h2:kid d e with
   |none=>simp
   |some v=>exact X2h (f::p) (hs.kid (Q5t h1)) (ht.kid (Q5t h2))
theorem Q9s(hs:s.ok):∀{t:FS},t.ok->(s.union t).ok:=by
 induction hs with
 |mk m c hm hc h ih=>
  intro t ht;obtain⟨n,d⟩:=t;rw[FS.union];refine .mk _ _ (Q9t m n hm ht.m) (Q9w c d hc ht.c) fun q hq=>?_;rcases Q4z c d q hq with h1|h1|⟨u,v,hu,hv,e⟩
  ·exact h _ h1
  ·exact ht.kid h1
  ·rw[e];exact ih _ hu (ht.kid hv)

def insL:List PE->PE->List PE
 |[],e=>[e]
 |a::l,e=>if plt a e=true then a::insL l e else if a=e then a::l else e::a::l
theorem Z8q:∀(l:List PE) (e x:PE),x∈insL l e<->x=e\/x∈l
 |[],e,x=>by simp[insL]
 |a::l,e,x=>by
  unfold insL;by_cases h:plt a e=true
  ·rw[if_pos h,mem_cons,Z8q l e x,mem_cons];constructor
   ·rintro(h|h|h)
    ·exact .inr (.inl h)
    ·exact .inl h
    ·exact .inr (.inr h)
   ·rintro(h|h|h)
    ·exact .inr (.inl h)
    ·exact .inl h
    ·exact .inr (.inr h)
  ·rw[if_neg h];by_cases e:a=e
   ·subst e;simp
   ·rw[if_neg e];simp
theorem X8o:∀(l:List PE) (e:PE),Inc l->Inc (insL l e)
 |[],e,_=>List.pairwise_singleton _ _
 |a::l,e,h=>by
  unfold insL;by_cases h1:plt a e=true
  ·rw[if_pos h1];refine pairwise_cons.2 ⟨fun x hx=>?_,X8o l e h.tail⟩;rcases(Z8q l e x).1 hx with y|y
   ·rw[y];exact h1
   ·exact h.lt y
  ·rw[if_neg h1];by_cases e1:a=e
   ·rw[if_pos e1];exact h
   ·rw[if_neg e1];have h2:=(Q7o e1).resolve_left h1;refine pairwise_cons.2 ⟨fun x hx=>?_,h⟩;rcases mem_cons.1 hx with y|y
    ·rw[y];exact h2
    ·exact Q3y h2 (h.lt y)
def setC:List (PE×FS)->PE->(FS->FS)->List (PE×FS)
 |[],e,f=>[(e,f .nil)]
 |(a,s)::c,e,f=>if plt a e=true then(a,s)::setC c e f else if a=e then(a,f s)::c else(e,f .nil)::(a,s)::c
theorem Z9m:∀(c:List (PE×FS)) (e:PE) (f:FS->FS) (q:PE×FS),q∈setC c e f->q∈c\/(q.1=e/\(q.2=f .nil\/∃s,(e,s)∈c/\q.2=f s))
 |[],e,f,q,h=>by simp[setC]at h;subst h;exact .inr ⟨rfl,.inl rfl⟩
 |(a,s)::c,e,f,q,h=>by
  unfold setC at h;by_cases h1:plt a e=true
  ·rw[if_pos h1]at h;rcases mem_cons.1 h with x|x
   ·exact .inl (by rw[x];exact mem_cons_self ..)
   ·rcases Z9m c e f q x with y|⟨y,z|⟨s,z,u⟩⟩
    ·exact .inl (mem_cons_of_mem _ y)
    ·exact .inr ⟨y,.inl z⟩
    ·exact .inr ⟨y,.inr ⟨s,mem_cons_of_mem _ z,u⟩⟩
  ·rw[if_neg h1]at h;by_cases e1:a=e
   ·rw[if_pos e1]at h;subst e1;rcases mem_cons.1 h with x|x
    ·exact .inr ⟨by rw[x],.inr ⟨s,mem_cons_self ..,by rw[x]⟩⟩
    ·exact .inl (mem_cons_of_mem _ x)
   ·rw[if_neg e1]at h;rcases mem_cons.1 h with x|x
    ·exact .inr ⟨by rw[x],.inl (by rw[x])⟩
    ·exact .inl x
theorem X6z:∀(c:List (PE×FS)) (e:PE) (f:FS->FS),IncC c->IncC (setC c e f)
 |[],e,f,_=>List.pairwise_singleton _ _
 |(a,s)::c,e,f,h=>by
  unfold setC;by_cases h1:plt a e=true
  ·rw[if_pos h1];refine pairwise_cons.2 ⟨fun x hx=>?_,X6z c e f h.tail⟩;obtain⟨q,hq,rfl⟩:=mem_map.1 hx;rcases Z9m c e f q hq with y|⟨y,_⟩
   ·exact h.lt y
   ·rw[y];exact h1
  ·rw[if_neg h1];by_cases e1:a=e
   ·rw[if_pos e1];exact h
   ·rw[if_neg e1];have h2:=(Q7o e1).resolve_left h1;refine pairwise_cons.2 ⟨fun x hx=>?_,h⟩;obtain⟨q,hq,rfl⟩:=mem_map.1 hx;rcases mem_cons.1 hq with y|y
    ·rw[y];exact h2
    ·exact Q3y h2 (h.lt y)
theorem X7p:∀(c:List (PE×FS)) (e:PE) (f:FS->FS),IncC c->∀k,kid (setC c e f) k=if e=k then some (f ((kid c e).getD .nil))else kid c k
 |[],e,f,_,k=>by simp[setC,kid]
 |(a,s)::c,e,f,h,k=>by
  unfold setC;by_cases h1:plt a e=true
  ·rw[if_pos h1,Q1d,X7p c e f h.tail,Q1d,Q1d];have hn:=Z6x h1;rw[if_neg hn];by_cases x:a=k
   ·subst x;rw[if_pos rfl,if_neg (Ne.symm hn),if_pos rfl]
   ·rw[if_neg x,if_neg x]
  ·rw[if_neg h1];by_cases e1:a=e
   ·rw[if_pos e1];subst e1;rw[Q1d,Q1d,Q1d,if_pos rfl];by_cases x:a=k
    ·rw[if_pos x,if_pos x];rfl
    ·rw[if_neg x,if_neg x,if_neg x]
   ·rw[if_neg e1];have h2:=(Q7o e1).resolve_left h1;rw[Q1d,Q5i h h2];rfl
def FS.ins:FS->List PE->FS
 |s,[]=>s
 |.mk m c,[e]=>.mk (insL m e) c
 |.mk m c,e::f::p=>.mk m (setC c e fun s=>s.ins (f::p))
theorem X1x:∀(p:List PE) {s:FS},s.ok->(s.ins p).ok
 |[],.mk _ _,h=>by unfold FS.ins;exact h
 |[e],.mk m c,h=>by
  unfold FS.ins;exact .mk _ _ (X8o m e h.m) h.c fun p hp=>h.kid hp
 |e::f::p,.mk m c,h=>by
  unfold FS.ins;refine .mk _ _ h.m (X6z c e _ h.c) fun q hq=>?_;rcases Z9m c e _ q hq with y|⟨_,z|⟨s,z,u⟩⟩
  ·exact h.kid y
  ·rw[z];exact X1x (f::p) FS.ok_nil
  ·rw[u];exact X1x (f::p) (h.kid z)
theorem Z9k(p:List PE):FS.nil.has p=false:=Q6y p rfl
theorem Z9i:∀(p q:List PE) {s:FS},s.ok->p≠[]->(s.ins p).has q=(decide (q=p)||s.has q)
 |[],_,_,_,h=>absurd rfl h
 |[e],[],.mk m c,h,_=>by simp[FS.ins,FS.has]
 |[e],[x],.mk m c,h,_=>by
  simp only[FS.ins,FS.has];rw[Bool.eq_iff_iff,Bool.or_eq_true,Q4x,Q4x,Z8q,decide_eq_true_eq];simp
 |[e],x::y::q,.mk m c,h,_=>by simp[FS.ins,FS.has]
 |e::f::p,[],.mk m c,h,_=>by simp[FS.ins,FS.has]
 |e::f::p,[x],.mk m c,h,_=>by simp[FS.ins,FS.has]
 |e::f::p,x::y::q,.mk m c,h,_=>by
  unfold FS.ins FS.has;rw[X7p c e _ h.c];by_cases k:e=x
  ·subst k;rw[if_pos rfl];cases hk:kid c e with
   |none=>
    have ih:=Z9i (f::p) (y::q) FS.ok_nil b0f;rw[Z9k]at ih;simp only[Option.getD_none];rw[ih];simp
   |some u=>
    have ih:=Z9i (f::p) (y::q) (h.kid (Q5t hk)) b0f;simp only[Option.getD_some];rw[ih];simp
  ·rw[if_neg k];have:decide (x::y::q=e::f::p)=false:=by simp;intro h;exact absurd h.symm k
   rw[this,Bool.false_or]

mutual
def FS.all:FS->List (List PE)
 |.mk m c=>m.map (fun e=>[e])++allC c
def allC:List (PE×FS)->List (List PE)
 |[]=>[]
 |(e,s)::c=>s.all.map (e::·)++allC c
end
theorem Z0f:∀(c:List (PE×FS)) (p:List PE),p∈allC c<->∃e s q,(e,s)∈c/\q∈s.all/\p=e::q
 |[],p=>by simp[allC]
 |(e,s)::c,p=>by
  rw[allC,mem_append,Z0f c p,mem_map];constructor
  ·rintro(⟨q,hq,rfl⟩|⟨e',s',q,h,hq,rfl⟩)
   ·exact⟨e,s,q,mem_cons_self ..,hq,rfl⟩
   ·exact⟨e',s',q,mem_cons_of_mem _ h,hq,rfl⟩
  ·rintro⟨e',s',q,h,hq,rfl⟩;rcases mem_cons.1 h with x|x
   ·cases x;exact .inl ⟨q,hq,rfl⟩
   ·exact .inr ⟨e',s',q,x,hq,rfl⟩
theorem X4m:∀(s:FS),[] ∉ s.all
 |.mk m c,h=>by
  rw[FS.all,mem_append]at h;rcases h with h|h
  ·simp at h
  ·obtain⟨_,_,_,_,_,h⟩:=(Z0f c []).1 h;cases h
theorem Z2v:∀(p:List PE) {s:FS},s.ok->(p∈s.all<->s.has p=true)
 |[],s,_=>by
  constructor
  ·intro h;exact absurd h (X4m s)
  ·intro h;cases s;cases h
 |[e],.mk m c,h=>by
  rw[FS.all,mem_append,Z0f];simp only[FS.has,Q4x];constructor
  ·rintro(h|⟨e',s',q,h,hq,h2⟩)
   ·simpa using h
   ·cases h2;exact absurd hq (X4m s')
  ·intro h;exact .inl b0b
 |e::f::p,.mk m c,h=>by
  rw[FS.all,mem_append,Z0f];unfold FS.has;constructor
  ·rintro(h1|⟨e',s',q,h1,hq,h2⟩)
   ·simp at h1
   ·cases h2;rw[kid_of h.c h1];exact(Z2v (f::p) (h.kid h1)).1 hq
  ·intro h1;cases hk:kid c e with
   |none=>rw[hk]at h1;cases h1
   |some s=>
    rw[hk]at h1;exact .inr ⟨e,s,f::p,Q5t hk,(Z2v (f::p) (h.kid (Q5t hk))).2 h1,rfl⟩
theorem Inc.nodup{l:List PE}(h:Inc l):l.Nodup:=h.imp fun h=>Z6x h
theorem X2p(h:s.ok):s.all.Nodup:=by
 induction h with
 |mk m c hm hc h ih=>
  rw[FS.all];refine List.nodup_append.2 ⟨?_,?_,?_⟩
  ·exact List.Pairwise.map _ (fun a b (h:a≠b)=>by simpa using h) (Inc.nodup hm)
  ·clear hm h;induction c with
   |nil=>exact List.nodup_nil
   |cons p c ihc=>
    obtain⟨e,s⟩:=p;rw[allC];refine List.nodup_append.2 ⟨?_,?_,?_⟩
    ·exact List.Pairwise.map _ (fun a b (h:a≠b)=>by simpa using h) (ih (e,s) (mem_cons_self ..))
    ·exact ihc (IncC.tail hc) fun p hp=>ih p (mem_cons_of_mem _ hp)
    ·intro x hx y hy hxy;subst hxy;obtain⟨q,_,rfl⟩:=mem_map.1 hx;obtain⟨e',s',q',h1,_,h2⟩:=(Z0f c _).1 hy;cases h2;have:=IncC.lt hc h1;rw[Q8a]at this;cases this
  ·intro x hx y hy hxy;subst hxy;obtain⟨e,_,rfl⟩:=mem_map.1 hx;obtain⟨e',s',q',h1,h2,h3⟩:=(Z0f c _).1 hy;cases h3;exact X4m s' h2
end
end Go.Proofs.YtbmklgemmjgjfaaGreat
