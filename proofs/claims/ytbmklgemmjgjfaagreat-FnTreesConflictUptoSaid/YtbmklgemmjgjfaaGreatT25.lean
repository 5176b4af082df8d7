/- Part 25: Plw, Cga. -/
import Derived.Test.YtbmklgemmjgjfaaGreatT23
namespace Go.Proofs.YtbmklgemmjgjfaaGreat
open List (append_nil mem_filter)
open Go.RowKit Go.Maps Tryz
set_option linter.unusedVariables false
set_option linter.unusedSimpArgs false
set_option maxRecDepth 100000
set_option maxHeartbeats 400000
section
open Go.Maps
theorem datum_eq{x y:Ieee.Datum}(h:x.order y=some Ordering.eq):y.order x=some Ordering.eq:=by
 cases x with
 |nan=>cases y<;>cases h
 |infinity s=>
  cases y with
  |nan=>cases h
  |infinity t=>
   simp only[Ieee.Datum.order,Option.some.injEq]at h⊢;exact Std.compare_eq_iff_eq.2 (Std.compare_eq_iff_eq.1 h).symm
  |number t n j=>
   simp only[Ieee.Datum.order,Option.some.injEq]at h;cases s<;>cases h
 |number s m i=>
  cases y with
  |nan=>cases h
  |infinity t=>
   simp only[Ieee.Datum.order,Option.some.injEq]at h;cases t<;>cases h
  |number t n j=>
   simp only[Ieee.Datum.order,Option.some.injEq]at h⊢;rw[Int.min_comm j i];exact Std.compare_eq_iff_eq.2 (Std.compare_eq_iff_eq.1 h).symm
theorem X8h(a b:Nat):feq a b=feq b a:=by
 have key:∀{a b:Nat},feq a b=true->feq b a=true:=fun{a b} h=>by
  unfold feq at h⊢;have h2:FloatKind.f64.format.order a b=some Ordering.eq:=by simpa using h
  have h3:FloatKind.f64.format.order b a=some Ordering.eq:=datum_eq h2;simpa using h3
 cases h:feq a b with
 |true=>exact(key h).symm
 |false=>
  cases k:feq b a with
  |true=>rw[key k]at h;cases h
  |false=>rfl
theorem X7o(a b:BA):seq a b=seq b a:=by
 unfold seq;exact Bool.eq_iff_iff.2 ⟨fun h=>by simpa using(by simpa using h:a.toList=b.toList).symm,fun h=>by simpa using(by simpa using h:b.toList=a.toList).symm⟩
mutual
theorem Z9j:∀a b:Tr,eqT a b=eqT b a
 |.null,b=>by cases b<;>rfl
 |.bool a,b=>by cases b<;>first|rfl|(simp only[eqT];exact Bool.beq_comm)
 |.int a,b=>by cases b<;>first|rfl|(simp only[eqT];exact Bool.eq_iff_iff.2 (by simp only[beq_iff_eq];exact eq_comm))|(simp only[eqT];exact X8h _ _)
 |.flt a,b=>by cases b<;>first|rfl|(simp only[eqT];exact X8h _ _)
 |.str a,b=>by cases b<;>first|rfl|(simp only[eqT];exact X7o _ _)
 |.list a,b=>by
  cases b with
  |list b=>simp only[eqT];exact X8q a b
  |_=>rfl
 |.map a,b=>by
  cases b with
  |map b=>simp only[eqT];exact X8x a b
  |_=>rfl
theorem X8q:∀a b:List Tr,eqL a b=eqL b a
 |[],[]=>rfl
 |[],_::_=>rfl
 |_::_,[]=>rfl
 |x::a,y::b=>by simp only[eqL];rw[Z9j x y,X8q a b]
theorem X8x:∀a b:KT,eqM a b=eqM b a
 |[],[]=>rfl
 |[],_::_=>rfl
 |_::_,[]=>rfl
 |(k,x)::a,(l,y)::b=>by simp only[eqM];rw[X7o k l,Z9j x y,X8x a b]
end
def Q8l(a m:Tr)(p:List PE):Bool:=match atT a p,atT m p with
 |some x,some y=>!x.isMap&&!eqT y x
 |_,_=>false
theorem Z4i(a m:Tr)(p:List PE):Q8l a m p=Q2y a m p:=by
 unfold Q8l Q2y;cases atT a p with
 |none=>rfl
 |some x=>
  cases atT m p with
  |none=>rfl
  |some y=>simp only;rw[Z9j]
section
variable{a b:Tr}{SA Mo Ad:FS}
theorem Q9c(ha:a.ok)(hb:b.ok)(hal:Q2d a b=true)(ho:Q1c a=true)(oA:SA.ok)(oM:Mo.ok)(oD:Ad.ok)
  (hA:∀p,SA.has p=true<->p∈Q0f a)(hM:∀p,Mo.has p=true<->p≠[]/\Q8l a (Q0d a b) p=true)(hD:∀p,Ad.has p=true->p ∉ Q0f a)(p:List PE):
  (SA.inter (Mo.union Ad)).has p=true<->p∈(Q0f a).filter (Q2y a b):=by
 rw[X1l p oA (Q9s oM oD),X2h p oM oD,mem_filter,Bool.and_eq_true,Bool.or_eq_true,hA,hM,Z4i,Z9d ha hb hal ho];constructor
 ·rintro⟨h1,h2|h2⟩
  ·exact⟨h1,h2.2⟩
  ·exact absurd h1 (hD p h2)
 ·rintro⟨h1,h2⟩;exact⟨h1,.inl ⟨((Q4q p ha).1 h1).1,h2⟩⟩
theorem left_has(ha:a.ok)(hb:b.ok)(hal:Q2d a b=true)(ho:Q1c a=true)(oA:SA.ok)(oM:Mo.ok)(oD:Ad.ok)
  (hA:∀p,SA.has p=true<->p∈Q0f a)(hM:∀p,Mo.has p=true<->p≠[]/\Q8l a (Q0d a b) p=true)(hD:∀p,Ad.has p=true->p ∉ Q0f a)(p:List PE):
  (SA.diff (SA.inter (Mo.union Ad))).has p=true<->p∈(Q0f a).filter fun q=>!Q2y a b q:=by
 have h:=Q9c ha hb hal ho oA oM oD hA hM hD p;rw[X6s p oA (Z2g oA (Q9s oM oD)),mem_filter,Bool.and_eq_true,hA];rw[mem_filter]at h;constructor
 ·rintro⟨h1,h2⟩;refine⟨h1,?_⟩;cases hc:Q2y a b p with
  |false=>rfl
  |true=>rw[h.2 ⟨h1,hc⟩]at h2;cases h2
 ·rintro⟨h1,h2⟩;refine⟨h1,?_⟩;cases hc:(SA.inter (Mo.union Ad)).has p with
  |false=>rfl
  |true=>rw[(h.1 hc).2]at h2;cases h2
theorem all_setOf{S:FS}(hS:S.ok){l:List (List PE)}(h:∀p,p≠[]->(S.has p=true<->p∈l)):Q3d [] S.all=Q3d [] l:=
 setOf_ext fun q hq=>(Z2v q hS).trans (h q hq)
end
end
section
def atO(o:Option Tr)(r:List PE):Option Tr:=o.bind fun t=>atT t r
def ARem(lo ro:Option Tr)(r:List PE):Prop:=(atO lo r).isSome=true/\atO ro r=none
def AMod(lo ro:Option Tr)(r:List PE):Prop:=∃x y,atO lo r=some x/\atO ro r=some y/\x.isMap=false/\eqT y x=false
def osz:Option Tr->Nat
 |some t=>t.size
 |none=>0
def fldO:Option Tr->KT
 |some (.map m)=>m
 |_=>[]
theorem Z0r(o:Option Tr):atO o []=o:=by cases o<;>simp[atO,Q7g]
theorem Q6d(o:Option Tr)(k:PE)(r:List PE):atO o (k::r)=atO (findK (fldO o) k) r:=by
 cases o with
 |none=>rfl
 |some t=>
  cases t with
  |map m=>exact Q9f m k r
  |_=>rfl
structure C3 where
 r:FS
 m:FS
 a:FS
structure Q3e(s:C3)(p:List PE)(R M A:List PE->Prop)(c:Nat)(s':C3):Prop where
 r:Gath s.r p R c s'.r
 m:Gath s.m p M c s'.m
 a:Gath s.a p A c s'.a
def C3.ok(s:C3):Prop:=s.r.ok/\s.m.ok/\s.a.ok
def C3.lt(s:C3)(n:Nat):Prop:=s.r.cnt<n/\s.m.cnt<n/\s.a.cnt<n
variable{c d D:Nat}{R M A R2 M2 A2:List PE->Prop}{p:List PE}{s s':C3}
theorem Q3e.ok(h:Q3e s p R M A c s'):s'.ok:=⟨h.r.ok,h.m.ok,h.a.ok⟩
theorem Q3e.refl(h:s.ok):Q3e s p (fun _=>False) (fun _=>False) (fun _=>False) 0 s:=⟨.refl h.1,.refl h.2.1,.refl h.2.2⟩
theorem Q3e.trans{s1 s2:C3}(h:Q3e s p R M A c s1)(k:Q3e s1 p R2 M2 A2 d s2):Q3e s p (fun r=>R r\/R2 r) (fun r=>M r\/M2 r) (fun r=>A r\/A2 r) (c+d) s2:=⟨h.r.trans k.r,h.m.trans k.m,h.a.trans k.a⟩
theorem Q3e.conv(h:Q3e s p R M A c s')(e:∀r,(R r<->R2 r)/\(M r<->M2 r)/\(A r<->A2 r))(hc:c<=d):Q3e s p R2 M2 A2 d s':=⟨h.r.conv (fun r=>(e r).1) hc,h.m.conv (fun r=>(e r).2.1) hc,h.a.conv (fun r=>(e r).2.2) hc⟩
theorem Q3e.under{k:PE}(h:Q3e s (p++[k]) R M A c s'):Q3e s p (fun r=>∃x,r=k::x/\R x) (fun r=>∃x,r=k::x/\M x) (fun r=>∃x,r=k::x/\A x) c s':=⟨h.r.under,h.m.under,h.a.under⟩
theorem Q3e.insR(h:s.ok)(hD:p.length<=D):Q3e s p (fun r=>r=[]) (fun _=>False) (fun _=>False) D ⟨s.r.ins p,s.m,s.a⟩:=
 ⟨by have:=Gath.ins (p:=p) (r:=[]) h.1 hD;rwa [append_nil]at this,(Gath.refl h.2.1).conv (fun _=>Iff.rfl) (Nat.zero_le _),(Gath.refl h.2.2).conv (fun _=>Iff.rfl) (Nat.zero_le _)⟩
theorem Q3e.insM(h:s.ok)(hD:p.length<=D):Q3e s p (fun _=>False) (fun r=>r=[]) (fun _=>False) D ⟨s.r,s.m.ins p,s.a⟩:=
 ⟨(Gath.refl h.1).conv (fun _=>Iff.rfl) (Nat.zero_le _),by have:=Gath.ins (p:=p) (r:=[]) h.2.1 hD;rwa [append_nil]at this,(Gath.refl h.2.2).conv (fun _=>Iff.rfl) (Nat.zero_le _)⟩
theorem Q3e.insA(h:s.ok)(hD:p.length<=D):Q3e s p (fun _=>False) (fun _=>False) (fun r=>r=[]) D ⟨s.r,s.m,s.a.ins p⟩:=
 ⟨(Gath.refl h.1).conv (fun _=>Iff.rfl) (Nat.zero_le _),(Gath.refl h.2.1).conv (fun _=>Iff.rfl) (Nat.zero_le _),by have:=Gath.ins (p:=p) (r:=[]) h.2.2 hD;rwa [append_nil]at this⟩
theorem C3.lt.add{n:Nat}(h:Q3e s p R M A c s')(hl:s.r.cnt+c<n/\s.m.cnt+c<n/\s.a.cnt+c<n):s'.lt n:=⟨by have:=h.r.cnt;omega,by have:=h.m.cnt;omega,by have:=h.a.cnt;omega⟩
def X2a(D:BA->Bool)(lo ro:Option Tr)(A:Option Tr->Option Tr->List PE->Prop)(r:List PE):Prop:=∃k x,r=k::x/\D k=true/\A (findK (fldO lo) k) (findK (fldO ro) k) x
theorem Z3r{left:BA->Bool}{lo ro:Option Tr}{A:Option Tr->Option Tr->List PE->Prop}{k:BA}(r:List PE):
  (X2a (fun z=>!left z) lo ro A r\/∃x,r=k::x/\A (findK (fldO lo) k) (findK (fldO ro) k) x)<->X2a (fun z=>!(left z&&!decide (z=k))) lo ro A r:=by
 constructor
 ·rintro(⟨l,x,rfl,h1,h2⟩|⟨x,rfl,h⟩)
  ·exact⟨l,x,rfl,by simp at h1;simp[h1],h2⟩
  ·exact⟨k,x,rfl,by simp,h⟩
 ·rintro⟨l,x,rfl,h1,h2⟩;by_cases e:l=k
  ·subst e;exact .inr ⟨x,rfl,h2⟩
  ·exact .inl ⟨l,x,rfl,by simpa[e]using h1,h2⟩
theorem X1i(lo ro:Option Tr)(r:List PE):X2a (fun _=>!false) lo ro ARem r<->(ARem lo ro r/\r≠[]):=by
 constructor
 ·rintro⟨k,x,rfl,_,h⟩;refine⟨?_,by simp⟩;unfold ARem at h⊢;rw[Q6d,Q6d];exact h
 ·rintro⟨h,hr⟩;match r,hr with
  |k::x,_=>
   unfold ARem at h;rw[Q6d,Q6d]at h;exact⟨k,x,rfl,rfl,h⟩
theorem Z6a(lo ro:Option Tr)(h0:∀x y,lo=some x->ro=some y->x.isMap=true)(r:List PE):X2a (fun _=>!false) lo ro AMod r<->AMod lo ro r:=by
 constructor
 ·rintro⟨k,x,rfl,_,h⟩;unfold AMod at h⊢;rw[Q6d,Q6d];exact h
 ·intro h;match r with
  |[]=>
   obtain⟨x,y,h1,h2,h3,_⟩:=h;rw[Z0r]at h1 h2;rw[h0 x y h1 h2]at h3;cases h3
  |k::x=>
   unfold AMod at h;rw[Q6d,Q6d]at h;exact⟨k,x,rfl,rfl,h⟩
theorem X3n(r:List PE):¬ARem none none r:=fun h=>by simp[ARem,atO]at h
theorem aMod_none(r:List PE):¬AMod none none r:=fun h=>by obtain⟨x,y,h1,_⟩:=h;simp[atO]at h1
def wt2(D:Nat)(f:BA->Bool)(lo ro:Option Tr):Nat:=wtM D f (fldO lo)+wtM D f (fldO ro)
theorem wt2_le(D:Nat)(f:BA->Bool)(lo ro:Option Tr):wt2 D f lo ro<=2*(Q0p (fldO lo)+Q0p (fldO ro))*D:=by
 have h1:=X7g D f (fldO lo);have h2:=X7g D f (fldO ro);unfold wt2;rw[Nat.mul_add,Nat.add_mul];omega
variable{f:BA->Bool}
theorem X3j{s:BA}(hs:f s=true)(m:KT):wtM D (fun z=>f z&&!decide (z=s)) m+2*osz (findK m s)*D<=wtM D f m:=by
 cases h:findK m s with
 |none=>
  have:=X0l (D:=D) (f:=f) (g:=fun z=>f z&&!decide (z=s)) (fun k h=>by simp only[Bool.and_eq_true]at h;exact h.1) m;simpa[osz]using this
 |some u=>exact Z8n hs h
theorem X8l{s:BA}(hs:f s=true)(lo ro:Option Tr):wt2 D (fun z=>f z&&!decide (z=s)) lo ro+2*(osz (findK (fldO lo) s)+osz (findK (fldO ro) s))*D<=wt2 D f lo ro:=by
 have h1:=X3j (D:=D) hs (fldO lo);have h2:=X3j (D:=D) hs (fldO ro);unfold wt2;rw[Nat.mul_add,Nat.add_mul];omega
theorem Z1s{m:KT}(k:BA):osz (findK m k)<=Q0p m:=by
 cases h:findK m k with
 |none=>exact Nat.zero_le _
 |some u=>
  have:=Q0o h;clear h;induction m with
  |nil=>cases this
  |cons p m ih=>
   obtain⟨l,t⟩:=p;rcases List.mem_cons.1 this with e|e
   ·cases e;simp[osz,Q0p]
   ·have:=ih e;simp only[osz,Q0p]at this⊢;omega
end
end Go.Proofs.YtbmklgemmjgjfaaGreat
