/- Part 50: Fpl. -/
import Derived.Test.YtbmklgemmjgjfaaGreatT48
namespace Go.Proofs.YtbmklgemmjgjfaaGreat
open List (length_cons mem_cons mem_cons_of_mem mem_cons_self mem_map)
open Go.RowKit Go.Maps Tryz
set_option linter.unusedVariables false
set_option linter.unusedSimpArgs false
set_option maxRecDepth 100000
set_option maxHeartbeats 16000000
section
open Go.Maps
theorem Z4e:∀(mb out:KT),Q0n (out++mb)->Q1x [] out mb=out++mb
 |[],out,_=>by simp[Q1x]
 |(k,x)::mb,out,h=>by
  have h1:=List.pairwise_append.1 h;have h2:insK out k x=out++[(k,x)]:=X2o fun p hp=>h1.2.2 p hp (k,x) (mem_cons_self ..);rw[Q1x];simp only[findK,List.find?_nil,Option.map_none];rw[h2,Z4e mb (out++[(k,x)]) b0b];simp
variable{t:Tr}
theorem X5e(h:t.ok):Q0d (.map []) t=t:=by
 cases t with
 |map m=>rw[Q0d,Z4e m [] (by simpa using h.sorted)];rfl
 |_=>rfl
mutual
theorem Q9r:∀t:Tr,nodesT t=t.size
 |.list l=>by simp only[nodesT,Tr.size,Z5t l]
 |.map m=>by simp only[nodesT,Tr.size,Z5l m]
 |.null=>rfl
 |.bool _=>rfl
 |.int _=>rfl
 |.flt _=>rfl
 |.str _=>rfl
theorem Z5t:∀l:List Tr,Z3z l=Z1p l
 |[]=>rfl
 |t::l=>by simp only[Z3z,Z1p,Q9r t,Z5t l]
theorem Z5l:∀m:KT,Z3u m=Q0p m
 |[]=>rfl
 |(_,t)::m=>by simp only[Z3u,Q0p,Q9r t,Z5l m]
end
theorem X1q{m:KT}:Q4u m=true<->∀p∈m,Q1c p.2=true:=by
 induction m with
 |nil=>simp[Q4u]
 |cons p m ih=>obtain⟨k,t⟩:=p;simp only[Q4u,Bool.and_eq_true,ih,mem_cons];exact⟨fun h p hp=>hp.elim (fun e=>e▸h.1) (h.2 p),fun h=>⟨h _ (.inl rfl),fun p hp=>h p (.inr hp)⟩⟩
theorem Z9f(N:Nat):∀a b:Tr,a.size<=N->a.ok->b.ok->Q1c a=true->Q1c b=true->Q1c (Q0d a b)=true:=by
 induction N with
 |zero=>intro a b h;have:=Q1l a;omega
 |succ N ih=>
  intro a b hN ha hb na nb;cases a with
  |map ma=>
   cases b with
   |map mb=>
    have ho:=Z1q _ _ ha hb;simp only[Q0d,Q1c]at na nb ho⊢;rw[X1q]at na nb⊢;rintro⟨k,t⟩ hp;have hf:=Q3g ho.sorted hp;rw[Q7p ha.sorted hb.sorted]at hf;cases h1:findK ma k with
    |none=>
     cases h2:findK mb k with
     |none=>rw[h1,h2]at hf;simp at hf
     |some u=>rw[h1,h2]at hf;simp at hf;subst hf;exact nb _ (Q0o h2)
    |some x=>
     have hm:=Q0o h1;have hsz:=Q2s hm;simp only[Tr.size]at hN;cases h2:findK mb k with
     |none=>rw[h1,h2]at hf;simp at hf;subst hf;exact na _ hm
     |some u=>rw[h1,h2]at hf;simp at hf;subst hf;exact ih _ _ om (ha.field hm) (hb.field (Q0o h2)) (na _ hm) (nb _ (Q0o h2))
   |_=>simpa[Q0d]using nb
  |_=>simpa[Q0d]using nb
theorem alike_symm(N:Nat):∀a b:Tr,a.size<=N->a.ok->b.ok->Q2d b a=true->Q2d a b=true:=by
 induction N with
 |zero=>intro a b h;have:=Q1l a;omega
 |succ N ih=>
  intro a b hN ha hb hal;cases a with
  |map ma=>
   cases b with
   |map mb=>
    simp only[Q2d]at hal⊢;refine Z6l ha.sorted fun k x y h1 h2=>?_;have hm:=Q0o h1;have hsz:=Q2s hm;simp only[Tr.size]at hN;exact ih _ _ om (ha.field hm) (hb.field (Q0o h2)) (Q5a hal h2 h1)
   |_=>simp[Q2d,Tr.isMap,Tr.isList]at hal
  |list l=>cases b<;>simp[Q2d,Tr.isMap,Tr.isList]at hal⊢
  |_=>cases b<;>simp[Q2d,Tr.isMap,Tr.isList]at hal⊢
mutual
theorem Q8z:∀t:Tr,(Q0f t).length+1<=t.size
 |.map m=>by have:=Z7w m;simp only[Q0f,Tr.size];omega
 |.list _=>by simp only[Q0f,Tr.size,List.length_nil];omega
 |.null=>Nat.le_refl _
 |.bool _=>Nat.le_refl _
 |.int _=>Nat.le_refl _
 |.flt _=>Nat.le_refl _
 |.str _=>Nat.le_refl _
theorem Z7w:∀m:KT,(Q1u m).length<=Q0p m
 |[]=>Nat.zero_le _
 |(k,t)::m=>by
  have:=Q8z t;have:=Z7w m;simp only[Q1u,Q0p,length_cons,List.length_append,List.length_map];omega
end
mutual
theorem X8m:∀(t:Tr) (p:List PE),p∈Q0f t->p.length+1<=t.size
 |.map m,p,h=>by have:=X3p m p h;simp only[Tr.size];omega
 |.list _,p,h=>by simp[Q0f]at h
 |.null,p,h=>by simp[Q0f]at h
 |.bool _,p,h=>by simp[Q0f]at h
 |.int _,p,h=>by simp[Q0f]at h
 |.flt _,p,h=>by simp[Q0f]at h
 |.str _,p,h=>by simp[Q0f]at h
theorem X3p:∀(m:KT) (p:List PE),p∈Q1u m->p.length<=Q0p m
 |[],p,h=>by simp[Q1u]at h
 |(k,t)::m,p,h=>by
  rw[Q1u]at h;simp only[Q0p];rcases mem_cons.1 h with rfl|h
  ·have:=Q8z t;simp only[length_cons,List.length_nil];omega
  ·rcases List.mem_append.1 h with h|h
   ·obtain⟨q,hq,rfl⟩:=mem_map.1 h;have:=X8m t q hq;simp only[length_cons];omega
   ·have:=X3p m p h;omega
end
theorem Z2z{α:Type}:∀{l m:List α},l.Nodup->m.Nodup->(∀x,x∈l<->x∈m)->l.Perm m
 |[],[],_,_,_=>List.Perm.refl _
 |[],y::m,_,_,h=>absurd ((h y).2 (mem_cons_self ..)) b0f
 |x::l,m,hl,hm,h=>by
  obtain⟨s,t,rfl⟩:=List.append_of_mem ((h x).1 (mem_cons_self ..));have hl':=List.nodup_cons.1 hl;have hp:(x::(s++t)).Perm (s++x::t):=List.perm_middle.symm;have hm':=List.nodup_cons.1 (hp.nodup_iff.2 hm);refine((Z2z hl'.2 hm'.2 fun y=>?_).cons x).trans hp;constructor
  ·intro hy;have h1:=(h y).1 (mem_cons_of_mem _ hy);rcases mem_cons.1 (hp.mem_iff.2 h1)with e|e
   ·subst e;exact absurd hy hl'.1
   ·exact e
  ·intro hy;have h1:=(h y).2 (hp.mem_iff.1 (mem_cons_of_mem _ hy));rcases mem_cons.1 h1 with e|e
   ·subst e;exact absurd hy hm'.1
   ·exact e
variable{ps:List (List PE)}
theorem plen_le{d:Nat}(h:∀p∈ps,p.length<=d):plen ps<=ps.length*d:=by
 induction ps with
 |nil=>simp[plen]
 |cons p ps ih=>
  have h1:=ih fun q hq=>h q (mem_cons_of_mem _ hq);have h2:=h p (mem_cons_self ..);simp only[plen,List.map_cons,List.sum_cons,length_cons,Nat.add_mul,Nat.one_mul]at h1⊢;omega
theorem ms_one{e:KV}{G:MF}{ms:List Mgn}(hs:Q0n e)(hi:∀k,findK e k=none<->G k=none)(hm:MsOf e G ms)(k:BA):((∃m∈ms,m.name=k)<->G k≠none):=by
 constructor
 ·rintro⟨m,hmm,rfl⟩ h0;obtain⟨f,hf,_⟩:=hm.2 m hmm;rw[h0]at hf;cases hf
 ·intro h0;have h1:findK e k≠none:=fun h=>h0 ((hi k).1 h);cases hf:findK e k with
  |none=>exact absurd hf h1
  |some v=>
   have h2:k∈e.map (·.1):=mem_map.2 ⟨_,Q0o hf,rfl⟩;rw[<-hm.1]at h2;obtain⟨m,hmm,e2⟩:=mem_map.1 h2;exact⟨m,hmm,e2⟩
variable{c:Nat}{f:FS}
theorem gat_has(ht:t.ok)(h:Gath .nil [] (Gat t) c f)(p:List PE):f.has p=true<->p∈Q0f t:=by
 by_cases hp:p=[]
 ·subst hp;have:([]:List PE) ∉ Q0f t:=fun h=>((Q4q [] ht).1 h).1 rfl;cases f;simp[FS.has,this]
 ·rw[h.has p hp,Z9k];simp only[Bool.false_eq_true,false_or,List.nil_append];constructor
  ·rintro⟨r,hr|hr,rfl⟩
   ·exact hr
   ·exact absurd hr.1 hp
  ·intro h;exact⟨p,.inl h,rfl⟩
theorem bare_iff(h:f.ok):f.bare=true<->∀p,f.has p=false:=⟨fun hb p=>Q6y p hb,fun hb=>X6i f hb h⟩
theorem X8y{l:List (List PE)}(h:f.ok)(hl:l.Nodup)(hm:∀p,f.has p=true<->p∈l):f.all.Perm l:=Z2z (X2p h) hl fun p=>(Z2v p h).trans (hm p)
theorem Z5z{ta:Tr}{one:BA}{r:An}(ha:ta.ok)(hne:∃p,p∈Q0f ta)(hm:ta.isMap=true)(h:Q5x (.map []) ta one false (fun _=>none) r):
  r.ok=true/\r.ch=true/\r.live=ta/\∃f:FS,r.ms=[⟨one,true,f.all⟩]/\f.ok/\∀p,f.has p=true<->p∈Q0f ta:=by
 obtain⟨f,s,hG,hG3,hsp⟩:=h;have hf:=gat_has ha hG;have hcf:∀k,cfF one s (addF one f fun _=>none) k=none:=fun k=>by
  unfold cfF addF;by_cases hk:k=one<;>simp[hk]
 have hnb:f.bare=false:=by
  cases hb:f.bare with
  |false=>rfl
  |true=>obtain⟨p,hp⟩:=hne;have:=Q6y p hb;rw[(hf p).2 hp]at this;cases this
 rcases hsp with⟨_,⟨k,hk⟩,_⟩|⟨_,h1,_,h3,e,hs,hi,hms⟩
 ·exact absurd (hcf k) hk
 ·have hmm:Q0d (.map []) ta=ta:=X5e ha;have heq:eqT (.map []) ta=false:=by
   obtain⟨m,rfl⟩:=Q2q hm;cases m with
   |nil=>obtain⟨p,hp⟩:=hne;simp[Q0f,Q1u]at hp
   |cons q m=>obtain⟨k,t⟩:=q;simp[eqT,eqM]
  rw[hmm,heq]at h3;simp only[Bool.false_eq_true,if_false]at h3;have hG1:∀k,updF one s (addF one f fun _=>none) k=if k=one then some (f,true)else none:=fun k=>by
   by_cases hk:k=one
   ·subst hk;simp[updF,Z0m,Q3w,cfF,rmF,addF,hnb]
   ·simp[updF,Z0m,Q3w,addF,hk]
  have hone:=ms_one hs hi hms;refine⟨h1,h3.1,h3.2,f,?_,hG.ok,hf⟩;have hnames:∀m∈r.ms,m=⟨one,true,f.all⟩:=fun m hm=>by
   obtain⟨f',hf',hps⟩:=hms.2 m hm;rw[hG1]at hf';by_cases hk:m.name=one
   ·rw[if_pos hk]at hf';cases m with|mk n ap ps=>cases hf';cases hk;cases hps;rfl
   ·rw[if_neg hk]at hf';cases hf'
  have hex:∃m∈r.ms,m.name=one:=(hone one).2 (by rw[hG1];simp);have hnd:(r.ms.map Mgn.name).Nodup:=by
   rw[hms.1];exact(List.pairwise_map.2 (hs.imp fun h=>Q7a h))
  match hr:r.ms,hnames,hex,hnd with
  |[],_,hex,_=>obtain⟨m,hm,_⟩:=hex;cases hm
  |[m],hn,_,_=>rw[hn m b0f]
  |m::m'::l,hn,_,hnd=>
   have e1:=hn m b0f;have e2:=hn m' b0f;subst e1 e2;simp at hnd
theorem insAll_has(hne:∀p∈ps,p≠[])(q:List PE):(FS.insAll ps).has q=true<->q∈ps:=by
 suffices h:∀(ps:List (List PE)) (s:FS),s.ok->(∀p∈ps,p≠[])->((ps.foldl FS.ins s).has q=true<->s.has q=true\/q∈ps) by
  rw[FS.insAll,h ps .nil FS.ok_nil hne,Z9k];simp
 intro ps;induction ps with
 |nil=>intro s _ _;simp
 |cons p ps ih=>
  intro s hs hn;rw[List.foldl_cons,ih (s.ins p) (X1x p hs) fun p hp=>hn p (mem_cons_of_mem _ hp),Z9i p q hs (hn p (mem_cons_self ..)),mem_cons];simp only[Bool.or_eq_true,decide_eq_true_eq];exact⟨fun h=>by rcases h with(h|h)|h<;>simp[h],fun h=>by rcases h with h|h|h<;>simp[h]⟩
variable{p:List PE}
theorem Z4s{A:List PE->Prop}(h:Gath .nil [] A c f)(hp:p≠[]):f.has p=true<->A p:=by
 rw[h.has p hp,Z9k];simp only[Bool.false_eq_true,false_or,List.nil_append];exact⟨fun⟨r,hr,e⟩=>e▸hr,fun h=>⟨p,h,rfl⟩⟩
theorem X6v(h:f.has p=true):p≠[]:=by rintro rfl;cases f;cases h
theorem two_len{a b:BA}:∀{l:List BA},l.Nodup->(∀x∈l,x=a\/x=b)->l.length<=2
 |[],_,_=>by simp
 |[_],_,_=>by simp
 |[_,_],_,_=>by simp
 |x::y::z::l,hn,h=>by
  have h1:=h x b0f;have h2:=h y b0f;have h3:=h z b0f;simp only[List.nodup_cons,mem_cons,not_or]at hn;rcases h1 with rfl|rfl<;>rcases h2 with rfl|rfl<;>rcases h3 with rfl|rfl<;>simp_all
section
variable{ta tb:Tr}{one two:BA}{ps:List (List PE)}{force:Bool}{r:An}
structure Z5a(ta tb:Tr)(one two:BA)(ps:List (List PE)):Prop where
 ha:ta.ok
 hb:tb.ok
 al:Q2d ta tb=true
 oa:Q1c ta=true
 ob:Q1c tb=true
 ne:one≠two
 pm:ps.Perm (Q0f ta)
def Z0j(ta tb:Tr):List (List PE):=(Q0f ta).filter (Q2y ta tb)
def Q9p(ta tb:Tr):List (List PE):=(Q0f ta).filter fun q=>!Q2y ta tb q
theorem Z5a.sets(h:Z5a ta tb one two ps){s:C3}{c:Nat}(hG:Q3e ⟨.nil,.nil,.nil⟩ [] (ARem (some ta) (some (Q0d ta tb))) (AMod (some ta) (some (Q0d ta tb))) (ARem (some (Q0d ta tb)) (some ta)) c s):
  (FS.insAll ps).ok/\(∀p,(FS.insAll ps).has p=true<->p∈Q0f ta)/\(∀p,s.m.has p=true<->p≠[]/\Q8l ta (Q0d ta tb) p=true)/\(∀p,s.a.has p=true->p ∉ Q0f ta)/\s.r.bare=true:=by
 refine⟨Z5e _,fun p=>?_,fun p=>?_,fun p hp hin=>?_,?_⟩
 ·rw[insAll_has (fun p hp=>((Q4q p h.ha).1 (h.pm.mem_iff.1 hp)).1),h.pm.mem_iff]
 ·have key:∀p:List PE,AMod (some ta) (some (Q0d ta tb)) p<->Q8l ta (Q0d ta tb) p=true:=fun p=>by
   unfold AMod Q8l atO;simp only[Option.bind_some];cases atT ta p with
   |none=>simp
   |some x=>cases atT (Q0d ta tb) p with
    |none=>simp
    |some y=>simp
  constructor
  ·intro hp;exact⟨X6v hp,(key p).1 ((Z4s hG.m (X6v hp)).1 hp)⟩
  ·rintro⟨h1,h2⟩;exact(Z4s hG.m h1).2 ((key p).2 h2)
 ·have h1:=(Z4s hG.a (X6v hp)).1 hp;have h2:=((Q4q p h.ha).1 hin).2;have h3:atT ta p=none:=h1.2;rw[h3]at h2;cases h2
 ·refine X6i _ (fun p=>?_) hG.r.ok;cases hp:s.r.has p with
  |false=>rfl
  |true=>
   exfalso;have h1:=(Z4s hG.r (X6v hp)).1 hp;have h2:(atT ta p).isSome=true:=h1.1;have h3:atT (Q0d ta tb) p=none:=h1.2;rw[Z8p p h.ha h.hb h.al]at h3;cases h4:atT ta p with
   |none=>rw[h4]at h2;cases h2
   |some x=>rw[h4]at h3;cases h5:atT tb p<;>rw[h5]at h3<;>cases h3
theorem Z6t(m:Mgn)(k:BA):mgF [m] k=if k=m.name then some (FS.insAll m.ps,m.ap)else none:=by simp[mgF]
theorem Z5a.conf(h:Z5a ta tb one two ps){s:C3}{f:FS}{c:Nat}(hG:Q3e ⟨.nil,.nil,.nil⟩ [] (ARem (some ta) (some (Q0d ta tb))) (AMod (some ta) (some (Q0d ta tb))) (ARem (some (Q0d ta tb)) (some ta)) c s)(k:BA):
  cfF two s (addF two f (mgF [⟨one,true,ps⟩])) k=if k=one then(if((FS.insAll ps).inter (s.m.union s.a)).bare then none else some ((FS.insAll ps).inter (s.m.union s.a),false))else none:=by
 by_cases hk:k=one
 ·subst hk;simp[cfF,addF,Z6t,h.ne]
 ·by_cases hk2:k=two
  ·subst hk2;simp[cfF,hk]
  ·simp[cfF,addF,Z6t,hk,hk2]
theorem free_out(h:Z5a ta tb one two ps)(hr:Q5x ta tb two false (mgF [⟨one,true,ps⟩]) r):r.ok=decide (Z0j ta tb=[])/\r.cs.Perm ((Z0j ta tb).map fun p=>(one,p)):=by
 obtain⟨f,s,hG,hG3,hsp⟩:=hr;obtain⟨oA,hA,hM,hD,hR⟩:=h.sets hG3;have hcf:=h.conf (f:=f) hG3;have hI:=Q9c h.ha h.hb h.al h.oa oA hG3.m.ok hG3.a.ok hA hM hD;have okI:((FS.insAll ps).inter (s.m.union s.a)).ok:=Z2g oA (Q9s hG3.m.ok hG3.a.ok);have hbare:((FS.insAll ps).inter (s.m.union s.a)).bare=true<->Z0j ta tb=[]:=by
  rw[bare_iff okI];constructor
  ·intro hb;cases hc:Z0j ta tb with
   |nil=>rfl
   |cons p l=>
    have:=(hI p).2 (by show p∈Z0j ta tb;rw[hc];exact mem_cons_self ..);rw[hb p]at this;cases this
  ·intro hc p;cases hp:((FS.insAll ps).inter (s.m.union s.a)).has p with
   |false=>rfl
   |true=>have:=(hI p).1 hp;change p∈Z0j ta tb at this;rw[hc]at this;cases this
 rcases hsp with⟨_,⟨k,hk⟩,h1,h2⟩|⟨h0,h1,h2,_⟩
 ·rw[hcf]at hk;have hnb:((FS.insAll ps).inter (s.m.union s.a)).bare=false:=by
   cases hb:((FS.insAll ps).inter (s.m.union s.a)).bare with
   |false=>rfl
   |true=>rw[hb]at hk;simp at hk
  have hne:¬Z0j ta tb=[]:=fun e=>by rw[hbare.2 e]at hnb;cases hnb
  refine⟨by rw[h1,decide_eq_false hne],Z2z h2.1 ?_ ?_⟩
  ·exact List.Pairwise.map _ (fun a b (hab:a≠b)=>by simpa using hab) ((Q8x h.ha).filter _)
  ·rintro⟨k',p⟩;rw[h2.2 k' p,mem_map];simp only[true_and,Prod.mk.injEq];constructor
   ·rintro⟨c,ap,hc,hp⟩;rw[hcf]at hc;by_cases hk':k'=one
    ·rw[if_pos hk',hnb]at hc;simp only[Bool.false_eq_true,if_false,Option.some.injEq,Prod.mk.injEq]at hc;rw[<-hc.1]at hp;exact⟨p,(hI p).1 ((Z2v p okI).1 hp),hk'.symm,rfl⟩
    ·rw[if_neg hk']at hc;cases hc
   ·rintro⟨q,hq,rfl,rfl⟩;exact⟨_,false,by rw[hcf,if_pos rfl,hnb];rfl,(Z2v q okI).2 ((hI q).2 hq)⟩
 ·have hall:Z0j ta tb=[]:=by
   rcases h0 with h0|h0
   ·cases h0
   ·have:=h0 one;rw[hcf,if_pos rfl]at this;refine hbare.1 ?_;cases hb:((FS.insAll ps).inter (s.m.union s.a)).bare with
    |true=>rfl
    |false=>rw[hb]at this;simp at this
  rw[h1,h2,hall];exact⟨by simp,List.Perm.refl _⟩
theorem forced_out(h:Z5a ta tb one two ps)(hr:Q5x ta tb two true (mgF [⟨one,true,ps⟩]) r):r.ok=true/\(if eqT ta (Q0d ta tb)=true then r.ch=false else r.ch=true/\r.live=Q0d ta tb)/\(∀m∈r.ms,m.name=one->Q3d [] m.ps=Q3d [] (Q9p ta tb)/\m.ps.Perm (Q9p ta tb))/\((∀m∈r.ms,m.name≠one)->Q9p ta tb=[])/\r.ms.length<=2:=by
 obtain⟨f,s,hG,hG3,hsp⟩:=hr;obtain⟨oA,hA,hM,hD,hR⟩:=h.sets hG3;have hcf:=h.conf (f:=f) hG3;have hI:=Q9c h.ha h.hb h.al h.oa oA hG3.m.ok hG3.a.ok hA hM hD;have hL:=left_has h.ha h.hb h.al h.oa oA hG3.m.ok hG3.a.ok hA hM hD;have okI:((FS.insAll ps).inter (s.m.union s.a)).ok:=Z2g oA (Q9s hG3.m.ok hG3.a.ok);rcases hsp with⟨h0,_⟩|⟨_,h1,_,h3,e,hs,hi,hms⟩
 ·cases h0
 ·have hrm:rmF two s (addF two f (mgF [⟨one,true,ps⟩])) one=none:=by simp[rmF,addF,Z6t,h.ne,hR]
  obtain⟨g,hg,okg,hgl⟩:∃g,Q3w (Q3w (addF two f (mgF [⟨one,true,ps⟩])) (cfF two s (addF two f (mgF [⟨one,true,ps⟩])))) (rmF two s (addF two f (mgF [⟨one,true,ps⟩]))) one=some (g,true)/\g.ok/\∀p,g.has p=true<->p∈Q9p ta tb:=by
   have hadd:addF two f (mgF [⟨one,true,ps⟩]) one=some (FS.insAll ps,true):=by simp[addF,Z6t,h.ne]
   cases hb:((FS.insAll ps).inter (s.m.union s.a)).bare with
   |true=>
    have hc:cfF two s (addF two f (mgF [⟨one,true,ps⟩])) one=none:=by rw[hcf,if_pos rfl,hb];rfl
    refine⟨FS.insAll ps,by simp[Q3w,hadd,hc,hrm],oA,fun p=>?_⟩;rw[hA,Q9p,List.mem_filter];refine⟨fun hp=>⟨hp,?_⟩,fun hp=>hp.1⟩;cases hch:Q2y ta tb p with
    |false=>rfl
    |true=>
     have:=(hI p).2 (List.mem_filter.2 ⟨hp,hch⟩);rw[Q6y p hb]at this;cases this
   |false=>
    have hc:cfF two s (addF two f (mgF [⟨one,true,ps⟩])) one=some ((FS.insAll ps).inter (s.m.union s.a),false):=by rw[hcf,if_pos rfl,hb];rfl
    exact⟨(FS.insAll ps).diff ((FS.insAll ps).inter (s.m.union s.a)),by simp[Q3w,hadd,hc,hrm],X5d oA okI,hL⟩
  have hG1:updF two s (addF two f (mgF [⟨one,true,ps⟩])) one=if g.bare then none else some (g,true):=by
   simp only[updF,Z0m,hg]
  have hone:=ms_one hs hi hms one;refine⟨h1,h3,fun m hm hn=>?_,fun hno=>?_,?_⟩
  ·obtain⟨f',hf',hps⟩:=hms.2 m hm;rw[hn,hG1]at hf';cases hb:g.bare with
   |true=>rw[hb]at hf';cases hf'
   |false=>
    rw[hb]at hf';simp only[Bool.false_eq_true,if_false,Option.some.injEq,Prod.mk.injEq]at hf';rw[hps,<-hf'.1];exact⟨all_setOf okg fun p _=>hgl p,X8y okg ((Q8x h.ha).sublist List.filter_sublist) hgl⟩
  ·have h4:updF two s (addF two f (mgF [⟨one,true,ps⟩])) one=none:=by
    cases h5:updF two s (addF two f (mgF [⟨one,true,ps⟩])) one with
    |none=>rfl
    |some x=>
     obtain⟨m,hm,hn⟩:=hone.2 (by rw[h5];simp);exact absurd hn (hno m hm)
   have hb:g.bare=true:=by
    cases hb:g.bare with
    |true=>rfl
    |false=>rw[hG1,hb]at h4;cases h4
   cases hc:Q9p ta tb with
   |nil=>rfl
   |cons p l=>
    have:=(hgl p).2 (by rw[hc];exact mem_cons_self ..);rw[Q6y p hb]at this;cases this
  ·have hnd:(r.ms.map Mgn.name).Nodup:=by
    rw[hms.1];exact(List.pairwise_map.2 (hs.imp fun h=>Q7a h))
   have:=two_len hnd fun k hk=>by
    obtain⟨m,hm,rfl⟩:=mem_map.1 hk;have h6:=(ms_one hs hi hms m.name).1 ⟨m,hm,rfl⟩;by_cases h7:m.name=one
    ·exact .inl h7
    ·by_cases h8:m.name=two
     ·exact .inr h8
     ·exact absurd (by simp[updF,Z0m,Q3w,addF,Z6t,h7,h8]) h6
   simpa using this
end
end
end Go.Proofs.YtbmklgemmjgjfaaGreat
