/- Part 3: Val, Map, Str. -/
import Derived.Deep.QuietTactic
import Derived.BigQuiet
import Derived.Deep.DeepCutAuto
import Derived.Outline
import Derived.StringKeys
import Derived.WideAt
import Derived.Test.YtbmklgemmjgjfaaGreatT01
import Derived.Test.YtbmklgemmjgjfaaGreatT02
namespace Go.Proofs.YtbmklgemmjgjfaaGreat
open List (map_cons mem_cons mem_map)
open Go.RowKit Go.Maps Tryz
set_option linter.unusedVariables false
set_option linter.unusedSimpArgs false
set_option maxRecDepth 100000
set_option maxHeartbeats 400000
section

variable{k:Nat}{v:Value}
theorem Q6b(h:AK v k)(w:World):
  Calls prog 385 #[.agg #[v]] w fun e w'=>e=.returned (.bool (decide (k=0)))/\w.alloc (.cells #[v] 430)=w':=by
 cases h;all_goals
  go_enter func385,ntmps385
  go_wp2_with fail
  go_ret
  exact⟨rfl,rfl⟩

theorem Q8i(h:AK v k)(w:World):
  Calls prog 380 #[.agg #[v]] w fun e w'=>e=.returned (.bool (decide (k=1)))/\w.alloc (.cells #[v] 430)=w':=by
 cases h;all_goals
  go_enter func380,ntmps380
  go_wp2_with fail
  go_ret
  exact⟨rfl,rfl⟩

theorem Z0y(h:AK v k)(w:World):
  Calls prog 382 #[.agg #[v]] w fun e w'=>e=.returned (.bool (decide (k=2)))/\w.alloc (.cells #[v] 430)=w':=by
 cases h;all_goals
  go_enter func382,ntmps382
  go_wp2_with fail
  go_ret
  exact⟨rfl,rfl⟩

theorem Q6q(h:AK v k)(w:World):
  Calls prog 381 #[.agg #[v]] w fun e w'=>e=.returned (.bool (decide (k=3)))/\w.alloc (.cells #[v] 430)=w':=by
 cases h;all_goals
  go_enter func381,ntmps381
  go_wp2_with fail
  go_ret
  exact⟨rfl,rfl⟩

theorem Q5c(h:AK v k)(w:World):
  Calls prog 386 #[.agg #[v]] w fun e w'=>e=.returned (.bool (decide (k=4)))/\w.alloc (.cells #[v] 430)=w':=by
 cases h;all_goals
  go_enter func386,ntmps386
  go_wp2_with fail
  go_ret
  exact⟨rfl,rfl⟩

theorem Q8g(h:AK v k)(w:World):
  Calls prog 383 #[.agg #[v]] w fun e w'=>e=.returned (.bool (decide (k=5)))/\w.alloc (.cells #[v] 430)=w':=by
 cases h;all_goals
  go_enter func383,ntmps383
  go_wp2_with fail
  go_ret
  exact⟨rfl,rfl⟩

theorem Q8k(h:AK v k)(w:World):
  Calls prog 384 #[.agg #[v]] w fun e w'=>e=.returned (.bool (decide (k=6)))/\w.alloc (.cells #[v] 430)=w':=by
 cases h;all_goals
  go_enter func384,ntmps384
  go_wp2_with fail
  go_ret
  exact⟨rfl,rfl⟩

theorem asBool_x(b:Bool)(w:World):
  Calls prog 372 #[.agg #[.iface 4 (.bool b)]] w fun e w'=>e=.returned (.bool b)/\w.alloc (.cells #[.iface 4 (.bool b)] 430)=w':=by
 go_enter func372,ntmps372;go_wp2_with fail
 go_ret;exact⟨rfl,rfl⟩

theorem asInt_x(n:Int)(w:World):
  Calls prog 374 #[.agg #[.iface 2 (.int .i64 n)]] w fun e w'=>e=.returned (.int .i64 n)/\w.alloc (.cells #[.iface 2 (.int .i64 n)] 430)=w':=by
 go_enter func374,ntmps374;go_wp2_with fail
 go_ret;exact⟨rfl,rfl⟩

theorem asFloat_x(n:Nat)(w:World):
  Calls prog 373 #[.agg #[.iface 31 (.float .f64 n)]] w fun e w'=>e=.returned (.float .f64 n)/\w.alloc (.cells #[.iface 31 (.float .f64 n)] 430)=w':=by
 go_enter func373,ntmps373;go_wp2_with fail
 go_ret;exact⟨rfl,rfl⟩

theorem asString_x(s:BA)(w:World):
  Calls prog 379 #[.agg #[.iface 9 (.string s)]] w fun e w'=>e=.returned (.string s)/\w.alloc (.cells #[.iface 9 (.string s)] 430)=w':=by
 go_enter func379,ntmps379;go_wp2_with fail
 go_ret;exact⟨rfl,rfl⟩

theorem Z1l(a:OA)(n c:Nat)(al:Value)(w:World):
  Calls prog 376 #[.agg #[.iface 282 (.slice a n c)],al] w fun e w'=>e=.returned (.iface 632 (.slice a n c))/\w.alloc (.cells #[.iface 282 (.slice a n c)] 430)=w':=by
 go_enter func376,ntmps376;go_wp2_with fail
 go_ret;exact⟨rfl,rfl⟩

theorem Q9g(r:Option Nat)(al:Value)(w:World):
  Calls prog 378 #[.agg #[.iface 283 (.map r)],al] w fun e w'=>e=.returned (.iface 633 (.map r))/\w.alloc (.cells #[.iface 283 (.map r)] 430)=w':=by
 go_enter func378,ntmps378;go_wp2_with fail
 go_ret;exact⟨rfl,rfl⟩

theorem Q7d(v:Value)(w:World):
  Calls prog 387 #[.agg #[v]] w fun e w'=>e=.returned (v)/\w.alloc (.cells #[v] 430)=w':=by
 go_enter func387,ntmps387;go_wp2_with fail
 go_ret;exact⟨rfl,rfl⟩
end
section
open Go.Maps Go.RowKit Go.WideMaps

theorem dl(a b:BA):(a.data.toList==b.data.toList)=decide (a=b):=by
 rw[Bool.eq_iff_iff];simp;constructor
 ·intro h;cases a;cases b;simp at h;rw[h]
 ·rintro rfl;rfl
def findK{α:Type}(m:List (BA×α))(k:BA):Option α:=(m.find? fun p=>decide (p.1=k)).map (·.2)
theorem Q2u(a b:BA):(klit a).sameKey (klit b)=decide (a=b):=by
 show(a.data.toList==b.data.toList)=_;exact dl a b

theorem X7s(m:KV)(k:BA)(z:DataW Value):(DM m).atKey (klit k) z=((findK m k).map DataW.held).getD z:=by
 simp only[DM,DataW.atKey,findK];induction m with
 |nil=>simp
 |cons p m ih=>
  simp only[map_cons,List.find?_cons,Q2u];by_cases h:p.1=k
  ·simp[h]
  ·simp only[h,decide_false];exact ih
theorem X9i(m:KV)(k:BA):Maps.has (DM m) (klit k)=(findK m k).isSome:=by
 simp only[DM,Maps.has,findK];induction m with
 |nil=>simp
 |cons p m ih=>
  simp only[map_cons,List.any_cons,List.find?_cons,Q2u];by_cases h:p.1=k
  ·simp[h]
  ·simp only[h,decide_false,Bool.false_or];exact ih
theorem key9{s:BA}(hs:s.size<=maxLen):keyOf prog 9 (.string s)=some (klit s):=keyOf_string_mk underlying9 hs
theorem X8d{key:Value}{kl:Lit}(h:keyOf prog 9 key=some kl):∃s:BA,key=.string s/\kl=klit s/\s.size<=maxLen:=by
 cases key<;>simp[keyOf,underlying9,mapKey]at h;exact⟨_,rfl,h.2.symm,h.1⟩
theorem X5k(m:KV):Maps.size (DM m)=m.length:=by simp[DM,Maps.size]

section
variable{w:World}{ops:Array Oper}{rest:List Oper}{o:Oper}{a:Act}{Q:EAW}
theorem Q6l(hg:o.guard=none)(m x:Operand)(t e:TypeId)(hop:o.op=Op.lookup t m x true)(ht:prog.underlying t=some (.map 9 e))
  (hz:∀w:World,(zeroValue e).run prog w=.ok .nilIface w)(r:Nat)(M:KV)(hm:a.eval m=.map (some r))(hown:Q3z w r M)
  (s:BA)(hx:a.eval x=.string s)(hs:s.size<=maxLen)
  (hK:wpList prog ops Q rest (a.put o.dst (.tuple #[(findK M s).getD .nilIface,.bool (findK M s).isSome])) w):wpList prog ops Q (o::rest) a w:=by
 refine wpList_lookup_own_ok w hg m x t hop 9 e law9 ht RV (hz w) (.held .nilIface) [] rfl r M.length (DM M) hm hown (.string s) (klit s) hx (key9 hs) fun v ps hv=>?_;have e1:v=(findK M s).getD .nilIface:=by
  have h1:DataW.held v=(DM M).atKey (klit s) (.held .nilIface):=by simpa[RV]using congrArg (Option.map Prod.fst) hv
  exact e0o
 rw[X9i,e1];exact hK
theorem Q5z(hg:o.guard=none)(m:Operand)(t e:TypeId)(hop:o.op=Op.call {callee:=Callee.builtin Builtin.len,args:=#[m],argTypes:=#[t]})(ht:prog.underlying t=some (.map 9 e))
  (r:Nat)(M:KV)(hm:a.eval m=.map (some r))(hown:Q3z w r M)
  (hK:wpList prog ops Q rest (a.put o.dst (.int .i64 M.length)) w):wpList prog ops Q (o::rest) a w:=
 wpList_len_own w hg m t hop 9 e ht RV r M.length (DM M) hm hown (by rw[X5k];exact hK)
def Q2a(w:World)(b r:Nat)(M:KV)(left:BA->Bool)(cnt:Nat):Prop:=
 ∃lf:Lit->Bool,(∀s,lf (klit s)=left s)/\w.ranges prog 9 RV b r M.length (DM M) lf cnt
theorem Q1g(hg:o.guard=none)(m:Operand)(t e:TypeId)(hop:o.op=Op.range t m)(ht:prog.underlying t=some (.map 9 e))(b:Nat)(M:KV)
  (hm:a.eval m=.map (some b))(hown:Q3z w b M)
  (hK:∀w',Q2a w' b w.heap.size M (fun s=>(findK M s).isSome) M.length->w.grownBy w' none->w'.heap.size=w.heap.size+1->wpList prog ops Q rest (a.put o.dst (.pointer (some ⟨w.heap.size,0,none⟩))) w'):
  wpList prog ops Q (o::rest) a w:=
 wpList_range_own w hg m t hop 9 e law9 ht RV b M.length (DM M) hm hown fun w' h1 h2 h3=>hK w' ⟨_,fun s=>X9i M s,by rw[X5k]at h1;exact h1⟩ h2 h3
theorem Q2a.kept{w':World}{b r:Nat}{M:KV}{left:BA->Bool}{cnt:Nat}(h:Q2a w b r M left cnt)(hb:w'.heap[b]?=w.heap[b]?)(hr:w'.heap[r]?=w.heap[r]?):Q2a w' b r M left cnt:=by
 obtain⟨lf,h1,es,clock,since,seen,c0,k1,k2,k3,k4,k5,k6⟩:=h;exact⟨lf,h1,es,clock,since,seen,c0,hb.trans k1,k2,k3,k4,hr.trans k5,k6⟩
theorem Q2a.owns{b r:Nat}{M:KV}{left:BA->Bool}{cnt:Nat}(h:Q2a w b r M left cnt):Q3z w b M:=h.choose_spec.2.owns
theorem Q2a.lt{b r:Nat}{M:KV}{left:BA->Bool}{cnt:Nat}(h:Q2a w b r M left cnt):r<w.heap.size:=h.choose_spec.2.lt
theorem Q1v(hg:o.guard=none)(it:Operand)(hop:o.op=Op.next it false)(b r:Nat)(M:KV)(left:BA->Bool)(cnt:Nat)
  (hit:a.eval it=pt r)(h:Q2a w b r M left cnt)
  (hDone:(∀s,left s=false)->wpList prog ops Q rest (a.put o.dst (.tuple #[.bool false])) w)
  (hMore:∀(s:BA) (v:Value) (w':World) (cnt':Nat),s.size<=maxLen->left s=true->findK M s=some v->Q2a w' b r M (fun z=>left z&&!decide (z=s)) cnt'->cnt'<cnt->
   w.grownBy w' (some r)->w'.heap.size=w.heap.size->(Instr.entry (pt r)).run prog w'=.ok (.tuple #[.string s,v]) w'->
   wpList prog ops Q rest (a.put o.dst (.tuple #[.bool true,.string s,v])) w'):wpList prog ops Q (o::rest) a w:=by
 obtain⟨lf,hl,hr⟩:=h;refine wpList_next_ranges w hg it hop 9 law9 RV (Value.string) id (fun key kl hk=>?_) (fun v y _=>⟨v,rfl⟩) b r M.length (DM M) lf cnt hit hr (fun _ h0=>hDone fun s=>by rw[<-hl];exact h0 _)
  fun s v kl y w' cnt' hk hlk hv hat hrg hlt hgr hsz hen=>?_
 ·obtain⟨s,rfl,_,_⟩:=X8d hk;exact⟨s,rfl⟩
 ·obtain⟨s',e1,rfl,hsz'⟩:=X8d hk;cases e1;have hf:findK M s=some v:=by
   have h1:=hat (.held (.bool true));have h2:=hat (.held (.bool false));rw[X7s]at h1 h2;have hy:y.1=.held v:=by
    have:RV v=some y:=hv;simp[RV]at this;rw[<-this]
   cases hf:findK M s with
   |none=>rw[hf]at h1 h2;simp at h1 h2;rw[<-h1]at h2;cases h2
   |some u=>rw[hf]at h1;simp at h1;rw[hy]at h1;cases h1;rfl
  refine hMore s v w' cnt' hsz' (by rw[<-hl];exact hlk) hf ⟨_,fun z=>?_,hrg⟩ hlt hgr hsz hen;simp[hl,Q2u]
end
end
section

theorem Q6p(a b:BA):seq a b=decide (a=b):=by
 unfold seq;rw[ByteArray.toList_eq,ByteArray.toList_eq];exact dl a b
def klt(a b:BA):Bool:=bytesBefore a.data.toList b.data.toList
theorem Q2r(a:BA):klt a a=false:=WideAt.bytes_irrefl _
variable{a b k:BA}
theorem Q2g{c:BA}(h:klt a b=true)(k:klt b c=true):klt a c=true:=Go.WideShapes.bytes_trans _ _ _ h k
theorem Q5r(h:a≠b):klt a b=true\/klt b a=true:=
 WideAt.bytes_total _ _ fun e=>h (Go.WideShapes.bytes_inj e)
theorem X3h(h:klt a b=true):klt b a=false:=by
 cases e:klt b a with
 |false=>rfl
 |true=>have:=Q2g h e;rw[Q2r]at this;cases this
theorem Q7a(h:klt a b=true):a≠b:=by rintro rfl;rw[Q2r]at h;cases h
theorem Z1t(a b:BA):Op.bytesLess a.toList b.toList=klt a b:=by
 rw[ByteArray.toList_eq,ByteArray.toList_eq];unfold klt;generalize a.data.toList=x;generalize b.data.toList=y;induction x generalizing y with
 |nil=>cases y<;>rfl
 |cons c x ih=>
  cases y with
  |nil=>rfl
  |cons d y=>simp only[Op.bytesLess,bytesBefore,ih]
def Q0n{α:Type}(l:List (BA×α)):Prop:=l.Pairwise fun p q=>klt p.1 q.1=true
theorem X7n.sorted{o:Obj}{m:KV}(h:X7n o m):Q0n m:=by
 obtain⟨es,clock,rfl,F,hs,hD⟩:=h;have h1:=Go.WideShapes.rising_pairwise _ (Maps.fit_rising law9 F);have h2:m.map (fun p=>(klit p.1,DataW.held p.2))=(es.toList.map (Go.WideElems.rg prog 9 RV)).foldr DataW.insert []:=by
  simpa[DM]using hD
 rw[<-h2,List.pairwise_map]at h1;exact h1
theorem Gh.map.sorted{I:Gh}{r:Nat}{m:KV}(h:I.map r m):Q0n m:=by
 obtain⟨o,_,h2⟩:=h;exact h2.sorted
theorem Q0n.keys{α β:Type}{l:List (BA×α)}{m:List (BA×β)}(h:Q0n l)(e:l.map (·.1)=m.map (·.1)):Q0n m:=by
 have h1:(l.map (·.1)).Pairwise (fun a b=>klt a b=true):=List.pairwise_map.2 h;rw[e]at h1;exact List.pairwise_map.1 h1
theorem Q0k{α:Type}(p:BA×α)(m:List (BA×α))(k:BA):findK (p::m) k=if p.1=k then some p.2 else findK m k:=by
 unfold findK;by_cases h:p.1=k<;>simp[h]
theorem Q0o{α:Type}{m:List (BA×α)}{v:α}(h:findK m k=some v):(k,v)∈m:=by
 induction m with
 |nil=>simp[findK]at h
 |cons p m ih=>
  rw[Q0k]at h;by_cases e:p.1=k
  ·rw[if_pos e]at h;cases h;subst e;simp
  ·rw[if_neg e]at h;exact List.mem_cons_of_mem _ (ih h)
theorem Q3g{α:Type}{m:List (BA×α)}(hs:Q0n m){v:α}(h:(k,v)∈m):findK m k=some v:=by
 induction m with
 |nil=>simp at h
 |cons p m ih=>
  obtain⟨h1,h2⟩:=List.pairwise_cons.1 hs;rw[Q0k];rcases mem_cons.1 h with e|e
  ·subst e;simp
  ·rw[if_neg (fun x=>by have:=Q7a (h1 _ e);exact this x)];exact ih h2 e
theorem Z7t{α:Type}{m:List (BA×α)}:findK m k=none<->∀v,(k,v) ∉ m:=by
 induction m with
 |nil=>simp[findK]
 |cons p m ih=>
  rw[Q0k];by_cases e:p.1=k
  ·subst e;simp only[if_true];constructor
   ·intro h;cases h
   ·intro h;exact absurd (List.mem_cons_self ..) (h p.2)
  ·rw[if_neg e,ih];constructor
   ·intro h v hv;rcases mem_cons.1 hv with x|x
    ·subst x;exact e rfl
    ·exact h v x
   ·intro h v hv;exact h v (List.mem_cons_of_mem _ hv)
theorem Z2w{α β:Type}{m:List (BA×α)}{n:List (BA×β)}(e:m.map (·.1)=n.map (·.1))(k:BA):(findK m k).isSome=(findK n k).isSome:=by
 induction m generalizing n with
 |nil=>cases n with
  |nil=>rfl
  |cons q n=>simp at e
 |cons p m ih=>cases n with
  |nil=>simp at e
  |cons q n=>
   simp only[map_cons,List.cons.injEq]at e
   rw[Q0k,Q0k,e.1]
   by_cases h:q.1=k
   ·simp[h]
   ·simp only[if_neg h];exact ih e.2
theorem Q3p{α β:Type}{m:List (BA×α)}{n:List (BA×β)}(e:m.map (·.1)=n.map (·.1)){v:α}(h:findK m k=some v):∃(i:Nat) (u:β),m[i]?=some (k,v)/\n[i]?=some (k,u)/\findK n k=some u:=by
 induction m generalizing n with
 |nil=>simp[findK]at h
 |cons p m ih=>cases n with
  |nil=>simp at e
  |cons q n=>
   simp only[map_cons,List.cons.injEq]at e
   rw[Q0k]at h
   by_cases hk:p.1=k
   ·rw[if_pos hk]at h
    cases h
    refine⟨0,q.2,?_,?_,?_⟩
    ·subst hk;rfl
    ·subst hk;simp[e.1]
    ·rw[Q0k,if_pos (by rw[<-e.1];exact hk)]
   ·rw[if_neg hk]at h
    obtain⟨i,u,h1,h2,h3⟩:=ih e.2 h
    exact⟨i+1,u,by simpa using h1,by simpa using h2,by rw[Q0k,if_neg (by rw[<-e.1];exact hk)];exact h3⟩
theorem Z9q:∀(b a:List BA),a.Pairwise (fun x y=>klt x y=true)->b.Pairwise (fun x y=>klt x y=true)->(∀x∈a,x∈b)->a.length<=b.length/\(a.length=b.length->a=b)
 |[],a,_,_,h=>by
  cases a with
  |nil=>simp
  |cons x a=>exact absurd (h x b0f) b0f
 |l::b,[],_,_,_=>by simp
 |l::b,k::a,ha,hb,h=>by
  obtain⟨ha1,ha2⟩:=List.pairwise_cons.1 ha;obtain⟨hb1,hb2⟩:=List.pairwise_cons.1 hb;by_cases e:k=l
  ·subst e;have:=Z9q b a ha2 hb2 fun x hx=>by
    rcases mem_cons.1 (h x (List.mem_cons_of_mem _ hx))with e|e
    ·exact absurd e.symm (Q7a (ha1 x hx))
    ·exact e
   exact⟨by simp;exact this.1,fun hl=>by rw[this.2 b2n]⟩
  ·have hk:k∈b:=by
    rcases mem_cons.1 (h k b0f)with x|x
    ·exact absurd x e
    ·exact x
   have hl:=hb1 k hk;have:=Z9q b (k::a) ha hb2 fun x hx=>by
    rcases mem_cons.1 (h x hx)with y|y
    ·subst y;rcases mem_cons.1 hx with z|z
     ·exact absurd z.symm e
     ·have:=Q2g hl (ha1 x z);rw[Q2r]at this;cases this
    ·exact y
   have h1:=this.1;simp at h1⊢;exact⟨by omega,fun hl=>by omega⟩

theorem Z9z:∀{m n:KT},eqM m n=true->m.map (·.1)=n.map (·.1)
 |[],[],_=>rfl
 |[],_::_,h=>by simp[eqM]at h
 |_::_,[],h=>by simp[eqM]at h
 |(k,a)::m,(l,b)::n,h=>by
  simp only[eqM,Bool.and_eq_true,Q6p,decide_eq_true_eq]at h;simp[h.1.1,Z9z h.2]
theorem eqM_of:∀{m n:KT},m.map (·.1)=n.map (·.1)->(∀(i:Nat) p q,m[i]?=some p->n[i]?=some q->eqT p.2 q.2=true)->eqM m n=true
 |[],[],_,_=>rfl
 |[],_::_,h,_=>by simp at h
 |_::_,[],h,_=>by simp at h
 |(k,a)::m,(l,b)::n,h,hh=>by
  simp only[map_cons,List.cons.injEq]at h;simp only[eqM,Bool.and_eq_true,Q6p,decide_eq_true_eq];exact⟨⟨h.1,hh 0 (k,a) (l,b) rfl rfl⟩,eqM_of h.2 fun i p q hp hq=>hh (i+1) p q (by simpa using hp) (by simpa using hq)⟩
theorem eqM_get:∀{m n:KT},eqM m n=true->∀(i:Nat) p q,m[i]?=some p->n[i]?=some q->eqT p.2 q.2=true
 |[],_,_,i,p,q,hp,_=>by simp at hp
 |_::_,[],h,_,_,_,_,_=>by simp[eqM]at h
 |(k,a)::m,(l,b)::n,h,i,p,q,hp,hq=>by
  simp only[eqM,Bool.and_eq_true]at h;cases i with
  |zero=>simp at hp hq;subst hp;subst hq;exact h.1.2
  |succ i=>exact eqM_get h.2 i p q (by simpa using hp) (by simpa using hq)
theorem eqM_length{m n:KT}(h:m.length≠n.length):eqM m n=false:=by
 cases e:eqM m n with
 |false=>rfl
 |true=>have:=congrArg List.length (Z9z e);simp at this;exact absurd this h
theorem eqM_look{m n:KT}(hm:Q0n m)(hn:Q0n n)(hl:m.length=n.length):
  eqM m n=true<->∀k u,findK n k=some u->∃t,findK m k=some t/\eqT t u=true:=by
 constructor
 ·intro h k u hu;have hk:=Z9z h;obtain⟨i,t,h1,h2,h3⟩:=Q3p hk.symm hu;exact⟨t,h3,eqM_get h i _ _ h2 h1⟩
 ·intro h;have hm':(m.map (·.1)).Pairwise (fun a b=>klt a b=true):=List.pairwise_map.2 hm;have hn':(n.map (·.1)).Pairwise (fun a b=>klt a b=true):=List.pairwise_map.2 hn;have hk:n.map (·.1)=m.map (·.1):=by
   refine(Z9q (m.map (·.1)) (n.map (·.1)) hn' hm' ?_).2 (by simp[hl]);intro x hx;obtain⟨p,hp,rfl⟩:=mem_map.1 hx;obtain⟨t,ht,_⟩:=h p.1 p.2 (Q3g hn hp);exact mem_map.2 ⟨_,Q0o ht,rfl⟩
  refine eqM_of hk.symm fun i p q hp hq=>?_;have hpm:=List.mem_of_getElem? hp;have hqm:=List.mem_of_getElem? hq;obtain⟨t,ht,he⟩:=h q.1 q.2 (Q3g hn hqm);have hpq:p.1=q.1:=by
   have h1:=congrArg (fun l=>l[i]?) hk;simp[hp,hq]at h1;exact h1.symm
  have:=Q3g hm hpm;rw[hpq,ht]at this;cases this;exact he
end
end Go.Proofs.YtbmklgemmjgjfaaGreat
