/- Part 1: Tre, Reg. -/
import Derived.Test.YtbmklgemmjgjfaaGreatProg
import Derived.Maps.RangeWalk
import Derived.Maps.OwnSet
import Derived.Maps.Ext
import Derived.OrdersHeld
import Derived.Deep.RegionHeld
import Derived.Deep.RegionHeld3
import Derived.Test.YtbmklgemmjgjfaaGreatT00
namespace Go.Proofs.YtbmklgemmjgjfaaGreat
open Go.RowKit Go.Maps Tryz
set_option linter.unusedVariables false
set_option linter.unusedSimpArgs false
set_option maxRecDepth 100000
set_option maxHeartbeats 400000
section
open Go.Maps
inductive Tr where
 |null
 |bool(b:Bool)
 |int(n:Int)
 |flt(n:Nat)
 |str(s:BA)
 |list(l:List Tr)
 |map(m:List (BA×Tr))
abbrev KT:=List (BA×Tr)

def feq(a b:Nat):Bool:=FloatKind.f64.format.order a b==some Ordering.eq
def i2f(n:Int):Nat:=floatOfInt FloatKind.f64 n
def seq(a b:BA):Bool:=a.toList==b.toList

mutual
def eqT:Tr->Tr->Bool
 |.null,.null=>true
 |.bool a,.bool b=>a==b
 |.int a,.int b=>a==b
 |.int a,.flt b=>feq (i2f a) b
 |.flt a,.int b=>feq a (i2f b)
 |.flt a,.flt b=>feq a b
 |.str a,.str b=>seq a b
 |.list a,.list b=>eqL a b
 |.map a,.map b=>eqM a b
 |_,_=>false
def eqL:List Tr->List Tr->Bool
 |[],[]=>true
 |a::r,b::s=>eqT a b&&eqL r s
 |_,_=>false
def eqM:List (BA×Tr)->List (BA×Tr)->Bool
 |[],[]=>true
 |(k,a)::r,(l,b)::s=>seq k l&&eqT a b&&eqM r s
 |_,_=>false
end

mutual
def Tr.size:Tr->Nat
 |.list l=>1+Z1p l
 |.map m=>1+Q0p m
 |_=>1
def Z1p:List Tr->Nat
 |[]=>0
 |a::r=>a.size+Z1p r
def Q0p:List (BA×Tr)->Nat
 |[]=>0
 |(_,a)::r=>a.size+Q0p r
end
def RV(v:Value):Option (DataW Value×List MemPlace):=some (.held v,[])
def klit(k:BA):Lit:=.string k.data.toList
def DM(m:KV):DataW Value:=.map (m.map fun p=>(klit p.1,.held p.2))
theorem law9:Keyed prog 9:=string_keyed underlying9
def Q3z(w:World)(r:Nat)(m:KV):Prop:=w.ownsMap prog 9 RV r m.length (DM m)
def X7n(o:Obj)(m:KV):Prop:=
 ∃es clock,o=.map es clock/\Go.WideElems.Fit prog 9 RV es clock/\es.size<=m.length/\DM m=.map ((es.toList.map (Go.WideElems.rg prog 9 RV)).foldr DataW.insert [])
def Gh.map(I:Gh)(r:Nat)(m:KV):Prop:=∃o,I r=some o/\X7n o m
variable{m:KV}{r:Nat}{I J:Gh}
theorem Gh.map.mono(h:I.map r m)(l:I.le J):J.map r m:=by
 obtain⟨o,h1,h2⟩:=h;exact⟨o,l _ _ h1,h2⟩
variable{w:World}
theorem Gh.map.at(h:I.map r m)(hi:I.In w):Q3z w r m:=by
 obtain⟨o,h1,es,clock,rfl,F,hs,hD⟩:=h;exact⟨es,clock,hi _ _ h1,F,hs,hD⟩
theorem Gh.map.lt(h:I.map r m)(hi:I.In w):r<w.heap.size:=by
 obtain⟨o,h1,_⟩:=h;exact hi.lt h1
theorem Q3z.obj(h:Q3z w r m):∃o,w.heap[r]?=some o/\X7n o m:=by
 obtain⟨es,clock,h1,F,hs,hD⟩:=h;exact⟨_,h1,es,clock,rfl,F,hs,hD⟩
inductive Q0r(I:Gh):Value->Tr->Prop
 |null:Q0r I .nilIface .null
 |bool (b:Bool):Q0r I (.iface 4 (.bool b)) (.bool b)
 |int (n:Int):Q0r I (.iface 2 (.int .i64 n)) (.int n)
 |flt (n:Nat):Q0r I (.iface 31 (.float .f64 n)) (.flt n)
 |str (s:BA):Q0r I (.iface 9 (.string s)) (.str s)
 | list (b o c:Nat) (vs:List Value) (ts:List Tr) (hl:vs.length=ts.length) (hn:ts.length<=maxLen)
   (hc:∀(i:Nat) v,vs[i]?=some v->I.cell ⟨b,o+i,none⟩ v) (h:∀(i:Nat) v t,vs[i]?=some v->ts[i]?=some t->Q0r I v t):
   Q0r I (.iface 282 (.slice (some ⟨b,o,none⟩) ts.length c)) (.list ts)
 | map (r:Nat) (vs:KV) (ts:List (BA×Tr)) (hm:I.map r vs) (hk:vs.map (·.1)=ts.map (·.1))
   (h:∀(i:Nat) v t,vs[i]?=some v->ts[i]?=some t->Q0r I v.2 t.2):Q0r I (.iface 283 (.map (some r))) (.map ts)

variable{t:Tr}{v:Value}
theorem Q0r.mono(h:Q0r I v t)(l:I.le J):Q0r J v t:=by
 induction h with
 |null=>exact .null
 |bool b=>exact .bool b
 |int n=>exact .int n
 |flt n=>exact .flt n
 |str s=>exact .str s
 |list b o c vs ts hl hn hc _ ih=>exact .list b o c vs ts hl hn (fun i v e=>(hc i v e).mono l) ih
 |map r vs ts hm hk _ ih=>exact .map r vs ts (hm.mono l) hk ih
def Tr.kind:Tr->Nat
 |.null=>0
 |.bool _=>1
 |.int _=>2
 |.flt _=>3
 |.str _=>4
 |.list _=>5
 |.map _=>6
theorem Q0r.ak(h:Q0r I v t):AK v t.kind:=by
 cases h
 ·exact .null
 ·exact .bool _
 ·exact .int _
 ·exact .float _
 ·exact .str _
 ·exact .list _ _ _
 ·exact .map _
end
section
open Go
def Q7t(Z:List Nat)(listed:Array Bool):Bool:=Z.all fun z=>!(listed.getD z true)
def Q0w(P:Program)(md:Region.Mode)(ops:Array Oper)(Q:EAW)(S:World->Prop)(Z:List Nat):Nat->Array Bool->AW
 |0,listed,a,w=>Region.ready md ops listed=[]/\Q .normal a w
 |fuel+1,listed,a,w=>
  (Region.ready md ops listed=[]->Q .normal a w)/\
  ∀i∈Region.ready md ops listed,wpOp P ops Q i (fun a' w'=>(Q7t Z (listed.setIfInBounds i true)=true->S w')/\Q0w P md ops Q S Z fuel (listed.setIfInBounds i true) a' w') a w
section
variable{P:Program}{md:Region.Mode}{ops:Array Oper}{Q:EAW}{S:World->Prop}{Z:List Nat}
theorem Z8d:∀(fuel:Nat) (listed:Array Bool) (a:Act) (w:World),Q0w P md ops Q S Z fuel listed a w->wpAny P md ops Q fuel listed a w
 |0,_,_,_,h=>h
 |fuel+1,_,_,_,h=>⟨h.1,fun i hi=>wpOp_mono (fun a' w' h'=>Z8d fuel _ a' w' h'.2) (h.2 i hi)⟩
theorem Z1m{listed:Array Bool}{j:Nat}(h:Q7t Z listed=true)(hj:j ∉ Z):Q7t Z (listed.setIfInBounds j true)=true:=by
 unfold Q7t at*;rw[List.all_eq_true]at*;intro z hz;rw[getD_set_ne true (fun e=>hj (by rw[e];exact hz))];exact h z hz
theorem X1p{i:Nat}{oi:Oper}{v:Value}(hi:ops[i]?=some oi)(hsel:∀(j:Nat) (o:Oper) cs b,ops[j]?=some o->o.op≠.select cs b)
  (hQ:∀c a w,Q (.panic c) (a.put oi.dst v) w->Q (.panic c) a w)(hiZ:i ∉ Z){D:List Nat}(hZD:∀z,z∈Z->z∈D)(hD:∀d,d∈D->∀od,ops[d]?=some od->∃e∈od.after,Region.binds md e=true/\(e.on=i\/e.on∈D)):
  ∀(fuel:Nat) (listed:Array Bool) (a:Act) (w:World),
   (∀j oj,ops[j]?=some oj->j≠i->listed.getD j true=false->(∀e∈oj.after,Region.binds md e=true->e.on≠i)->oi.apart ops oj=true)->
   i∈Region.ready md ops listed->YieldsIf P ops S oi v a->Q7t Z listed=true->(∀d,d∈D->listed.getD d true=false)->S w->
   Q0w P md ops Q S Z fuel (listed.setIfInBounds i true) (a.put oi.dst v) w->Q0w P md ops Q S Z (fuel+1) listed a w:=by
 intro fuel;induction fuel with
 |zero=>
  intro listed a w _ hr hy _ _ hS H;refine⟨fun h=>(by rw[h]at hr;cases hr),fun j hj=>?_⟩;by_cases hji:j=i
  ·subst hji;exact hy.wpOp hi hS ⟨fun _=>hS,H⟩
  ·have:=ready_mono hj hji;rw[H.1]at this;cases this
 |succ fuel ih=>
  intro listed a w hfree hr hy hU hL hS H;refine⟨fun h=>(by rw[h]at hr;cases hr),fun j hj=>?_⟩;by_cases hji:j=i
  ·subst hji;exact hy.wpOp hi hS ⟨fun _=>hS,H⟩
  ·obtain⟨hjun,oj,hoj,hall⟩:=mem_ready.1 hj;have hnot:∀e∈oj.after,Region.binds md e=true->e.on≠i:=fun e he hb heq=>by
    have h1:=hall e he hb;have h0:=(mem_ready.1 hr).1;rw[heq]at h1;rcases Nat.lt_or_ge i listed.size with h'|h'
    ·simp[h']at h0 h1;rw[h0]at h1;cases h1
    ·simp[Array.getElem?_eq_none h']at h1
   have hjD:j ∉ D:=fun hz'=>by
    obtain⟨e,he,hb,hon⟩:=hD j hz' oj hoj;rcases hon with hon|hon
    ·exact hnot e he hb hon
    ·have h1:=hall e he hb;have h0:=hL _ hon;rcases Nat.lt_or_ge e.on listed.size with h'|h'
     ·simp[h']at h0 h1;rw[h0]at h1;cases h1
     ·simp[Array.getElem?_eq_none h']at h1
   have hjZ:j ∉ Z:=fun hz'=>hjD (hZD j hz');have hUj:=Z1m hU hjZ;have hUij:=Z1m (Z1m hU hiZ) hjZ;have h2:=wpOp_putIf hoj (hfree j oj hoj hji hjun hnot) (fun cs b=>hsel i oi cs b hi) (fun cs b=>hsel j oj cs b hoj) hQ hy (H.2 j (ready_mono hj hji));have hfree':∀k ok,ops[k]?=some ok->k≠i->(listed.setIfInBounds j true).getD k true=false->
     (∀e∈ok.after,Region.binds md e=true->e.on≠i)->oi.apart ops ok=true:=fun k ok hk hki hun hno=>by
    refine hfree k ok hk hki ?_ hno;by_cases hjk:j=k
    ·subst hjk;exact hjun
    ·rw[getD_set_ne true hjk]at hun;exact hun
   refine wpOp_mono (fun a' w' h3=>⟨fun _=>h3.2.1 hUij,ih (listed.setIfInBounds j true) a' w' hfree' (ready_mono hr (Ne.symm hji)) h3.1 hUj (fun d hd=>by rw[getD_set_ne true (fun e=>hjD (by rw[e];exact hd))];exact hL d hd) (h3.2.1 hUij) ?_⟩) h2;rw[Array.setIfInBounds_comm _ _ hji];exact h3.2.2
def deps(md:Region.Mode)(ops:Array Oper)(i:Nat):List Nat:=
 (List.range ops.size).foldl (fun D d=>if(match ops[d]? with
  |some od=>od.after.any fun e=>Region.binds md e&&(e.on==i||D.contains e.on)
  |none=>false)=true then d::D else D) []
def waitsZ(md:Region.Mode)(ops:Array Oper)(Z:List Nat)(i:Nat)(listed:Array Bool):Bool:=
 let D:=deps md ops i
 Z.all (fun z=>z != i&&D.contains z)&&D.all fun d=>!(listed.getD d true)&&match ops[d]? with
  |some od=>od.after.any fun e=>Region.binds md e&&(e.on==i||D.contains e.on)
  |none=>false
theorem X5v{i:Nat}{oi:Oper}{v:Value}{fuel:Nat}{listed:Array Bool}{a:Act}{w:World}(hi:ops[i]?=some oi)
  (hs:Region.noSelect ops=true)(hf:Region.free md ops listed i=true)(hr:(Region.ready md ops listed).contains i=true)(hz:waitsZ md ops Z i listed=true)(hU:Q7t Z listed=true)
  (hQ:∀c a w,Q (.panic c) (a.put oi.dst v) w->Q (.panic c) a w)(hy:YieldsIf P ops S oi v a)(hS:S w)
  (h:Q0w P md ops Q S Z fuel (listed.setIfInBounds i true) (a.put oi.dst v) w):Q0w P md ops Q S Z (fuel+1) listed a w:=by
 unfold waitsZ at hz;simp only[Bool.and_eq_true,List.all_eq_true]at hz;obtain⟨h1,h2⟩:=hz;refine X1p (D:=deps md ops i) hi (Region.noSelect_spec hs) hQ (fun hm=>?_) (fun z hm=>?_) (fun d hd od hod=>?_) fuel listed a w (Region.free_spec hi hf) (by simpa using hr) hy hU (fun d hd=>?_) hS h
 ·have:=(h1 i hm).1;simp at this
 ·simpa using(h1 z hm).2
 ·have:=(h2 d hd).2;rw[hod]at this;obtain⟨e,he,hb⟩:=Array.any_eq_true'.1 this;simp only[Bool.and_eq_true,Bool.or_eq_true,beq_iff_eq]at hb;exact⟨e,he,hb.1,hb.2.imp_right fun h=>by simpa using h⟩
 ·have:=(h2 d hd).1;simpa using this
theorem Z6j{listed:Array Bool}{a:Act}{w:World}(hr:Region.ready md ops listed=[])(h:Q .normal a w):
  ∀fuel,Q0w P md ops Q S Z fuel listed a w
 |0=>⟨hr,h⟩
 |_+1=>⟨fun _=>h,by rw[hr];simp⟩
def Q1o(P:Program)(md:Region.Mode)(ops:Array Oper)(Q:EAW)(S:World->Prop)(Z:List Nat)(fuel:Nat)(listed:Array Bool)(a:Act)(w:World)(rs:List Nat):Prop:=
 ∀i∈rs,wpOp P ops Q i (fun a' w'=>(Q7t Z (listed.setIfInBounds i true)=true->S w')/\Q0w P md ops Q S Z fuel (listed.setIfInBounds i true) a' w') a w
theorem Q1o.nil{fuel:Nat}{listed:Array Bool}{a:Act}{w:World}:Q1o P md ops Q S Z fuel listed a w []:=fun _ h=>by cases h
theorem Q1o.held{fuel:Nat}{listed:Array Bool}{a:Act}{w:World}{i:Nat}{o:Oper}{rs:List Nat}(ho:ops[i]?=some o)
  (h:∀K':AW,Shut (∀a w,S w->(S w->Q0w P md ops Q S Z fuel (listed.setIfInBounds i true) a w)->K' a w)->if Region.wanted o (yielded ops a.tmps)=true then Oper.wp P o a w K' Q else K' (a.put o.dst undef) w)
  (hs:Q1o P md ops Q S Z fuel listed a w rs):Q1o P md ops Q S Z fuel listed a w (i::rs):=fun j hj=>by
 rcases List.mem_cons.1 hj with rfl|hj
 ·exact wpOp_step ho (fun K' hK=>h K' (fun a w hS hW=>hK a w ⟨fun _=>hS,hW hS⟩))
 ·exact hs j hj
theorem Q1o.shut{fuel:Nat}{listed:Array Bool}{a:Act}{w:World}{i:Nat}{o:Oper}{rs:List Nat}(ho:ops[i]?=some o)(hc:Q7t Z (listed.setIfInBounds i true)=false)
  (h:∀K':AW,Shut (∀a w,Q0w P md ops Q S Z fuel (listed.setIfInBounds i true) a w->K' a w)->if Region.wanted o (yielded ops a.tmps)=true then Oper.wp P o a w K' Q else K' (a.put o.dst undef) w)
  (hs:Q1o P md ops Q S Z fuel listed a w rs):Q1o P md ops Q S Z fuel listed a w (i::rs):=fun j hj=>by
 rcases List.mem_cons.1 hj with rfl|hj
 ·exact wpOp_step ho (fun K' hK=>h K' (fun a w hW=>hK a w ⟨fun hu=>absurd hu (by rw[hc];decide),hW⟩))
 ·exact hs j hj
theorem Q5n{rs:List Nat}{fuel:Nat}{listed:Array Bool}{a:Act}{w:World}(hr:Region.ready md ops listed=rs)(hne:rs≠[])
  (h:Q1o P md ops Q S Z fuel listed a w rs):Q0w P md ops Q S Z (fuel+1) listed a w:=
 ⟨fun h0=>absurd (hr▸h0) hne,hr▸h⟩
theorem X4z{id:Nat}{a:Act}{w:World}(hm:P.follows .mixedOrders=true)(hS:S w.drew)
  (h:S w.drew->Q0w P .any ops Q S Z ops.size (Array.replicate ops.size false) a w.drew):(Code.region id ops true).wp P Q a w:=
 wp_region_any hm (Z8d _ _ _ _ (h hS))
end
end
end Go.Proofs.YtbmklgemmjgjfaaGreat
