/- Part 37: Srt. -/
import Derived.Test.YtbmklgemmjgjfaaGreatT36
namespace Go.Proofs.YtbmklgemmjgjfaaGreat
open List (length_take mem_append mem_cons)
open Go.RowKit Go.Maps Tryz
set_option linter.unusedVariables false
set_option linter.unusedSimpArgs false
set_option maxRecDepth 100000
set_option maxHeartbeats 16000000
section
theorem swap_at(A B:List Value)(x s:Value):((A++x::s::B).set (A.length+1) x).set A.length s=A++s::x::B:=by
 induction A with
 |nil=>rfl
 |cons a A ih=>simp[ih]
variable{j n c size mr:Nat}{s x:BA}{ks:List BA}
theorem srt_row(hx:ks[j]?=some x):
  (((ks.take (j+1)++s::ks.drop (j+1)).map Value.string).set (j+1) (.string x)).set j (.string s)=(ks.take j++s::ks.drop j).map Value.string:=by
 have hj:=(List.getElem?_eq_some_iff.1 hx).1;have h:=swap_at ((ks.take j).map Value.string) ((ks.drop (j+1)).map Value.string) (.string x) (.string s);rw[List.length_map,length_take,Nat.min_eq_left om]at h;rw[Q1k hx,Q1h hx];simpa using h
theorem srt_at(hx:ks[j]?=some x):
  ((ks.take (j+1)++s::ks.drop (j+1)).map Value.string)[j+1]?=some (.string s)/\((ks.take (j+1)++s::ks.drop (j+1)).map Value.string)[j]?=some (.string x):=by
 have hj:=(List.getElem?_eq_some_iff.1 hx).1;have hl:(ks.take (j+1)).length=j+1:=by rw[length_take];omega
 constructor
 ·rw[List.getElem?_map,List.getElem?_append_right om,hl];simp
 ·rw[List.getElem?_map,List.getElem?_append_left om,List.getElem?_take,if_pos om,hx];rfl
theorem srt_sorted{i:Nat}(h:ks.Pairwise (fun a b=>klt a b=true))(hgt:∀x∈ks.drop i,klt s x=true)(hlt:∀x∈ks.take i,klt x s=true):
  (ks.take i++s::ks.drop i).Pairwise (fun a b=>klt a b=true):=by
 have h0:(ks.take i++ks.drop i).Pairwise (fun a b=>klt a b=true):=by rw[List.take_append_drop];exact h
 obtain⟨h1,h2,h3⟩:=List.pairwise_append.1 h0;refine List.pairwise_append.2 ⟨h1,List.pairwise_cons.2 ⟨hgt,h2⟩,fun a ha b hb=>?_⟩;rcases mem_cons.1 hb with rfl|hb
 ·exact hlt a ha
 ·exact h3 a ha b hb
theorem srt_low(h:ks.Pairwise (fun a b=>klt a b=true))(hx:ks[j]?=some x)(hk:klt x s=true):∀y∈ks.take (j+1),klt y s=true:=by
 intro y hy;rw[Q1k hx]at hy;rcases mem_append.1 hy with hy|hy
 ·obtain⟨i,hi⟩:=List.getElem?_of_mem hy;have hil:i<j:=by have:=(List.getElem?_eq_some_iff.1 hi).1;rw[length_take]at this;omega
  rw[List.getElem?_take,if_pos hil]at hi;exact Q2g (Z2o h hil hi hx) hk
 ·rw[List.mem_singleton.1 hy];exact hk
theorem mem_mid{k:BA}(i:Nat):k∈ks.take i++s::ks.drop i<->k=s\/k∈ks:=by
 rw[mem_append,mem_cons];conv=>rhs;rw[<-List.take_append_drop i ks,mem_append]
 exact⟨fun h=>by rcases h with h|h|h<;>simp[h],fun h=>by rcases h with h|h|h<;>simp[h]⟩
theorem unit_find(ks:List BA)(k:BA):(findK (ks.map fun k=>(k,())) k).isSome=true<->k∈ks:=by
 induction ks with
 |nil=>simp[findK]
 |cons a l ih=>
  rw[List.map_cons,Q0k,mem_cons];by_cases hc:a=k
  ·simp[hc]
  ·rw[if_neg hc,ih];exact⟨.inr,fun h=>h.resolve_left fun e=>hc e.symm⟩
variable{e:KV}
theorem srt_end(h:ks.Pairwise (fun a b=>klt a b=true))(he:Q0n e)(hm:∀k,k∈ks<->(findK e k).isSome=true):ks=e.map (·.1):=by
 have hs:Q0n (ks.map fun k=>(k,())):=List.pairwise_map.2 h;have:=Q7b hs he fun k=>Bool.eq_iff_iff.2 ((unit_find ks k).trans (hm k));simpa[Function.comp_def]using this
variable{xs:List Value}{W:World}{J:Gh}
theorem row_g{M:Nat->Prop}{I:Gh}{w:World}{L:List Blk}{R:List Rw}{A:OA}{e:TypeId}(S:St M I J w W L (⟨.slice A (n+1) c,e,size,n+1,xs⟩::R)):∃g,A=some (ad g 0):=by
 rcases(S.rows _ (List.mem_cons_self ..)).1.2 with⟨h,_⟩|⟨g,cap,cur,h,_⟩
 ·cases h
 ·cases h;exact⟨g,rfl⟩
variable{v:Value}
theorem Q8r{e:TypeId}{N g:Nat}(h:W.ownsRow 0 e size (.slice (some (ad g 0)) N c) n xs)(hv:xs[j]?=some v):W.cell? (ad g j)=some v:=by
 obtain⟨b,o,e1,hc⟩:=(Q2f.own h).get hv;rcases h.2 with⟨e2,_⟩|⟨g',cap,cur,e2,_,hg,h1,h2,h3,h4⟩
 ·cases e2
 ·cases e2;have h5:=h4▸hv;rw[List.getElem?_take]at h5;split at h5
  ·rw[Q0e hg,<-Array.getElem?_toList];exact h5
  ·cases h5
abbrev keyRw(A:OA)(n c:Nat)(ks:List BA):Rw:=⟨.slice A n c,9,1,n,ks.map Value.string⟩
def SrtH(M:Nat->Prop)(I J:Gh)(w W:World)(mr rb:Nat)(e:KV)(cnt:Nat)(x:Value):Prop:=∃(left:BA->Bool) (ks:List BA) (A:OA) (c:Nat),x=.slice A ks.length c/\St M I J w W [] [keyRw A ks.length c ks]/\Q2a W mr rb e left cnt/\Q4r J w W [] [keyRw A ks.length c ks] rb/\ks.Pairwise (fun a b=>klt a b=true)/\(∀k,k∈ks<->left k=false/\(findK e k).isSome=true)/\ks.length+cnt<=e.length
structure SrtR(M:Nat->Prop)(I J:Gh)(w w1:World)(mr rb:Nat)(e:KV)(left:BA->Bool)(ks:List BA)(A:OA)(c:Nat)(s:BA)(v:Value)(n0 cnt:Nat):Prop where
 st:St M I J w w1 [] [keyRw A ks.length c ks]
 ap:Q4r J w w1 [] [keyRw A ks.length c ks] rb
 rg:Q2a w1 mr rb e (fun z=>left z&&!decide (z=s)) cnt
 so:ks.Pairwise (fun a b=>klt a b=true)
 mem:∀k,k∈ks<->left k=false/\(findK e k).isSome=true
 len:ks.length+n0<=e.length
 lt:cnt<n0
 l:left s=true
 f:findK e s=some v
section
variable{M:Nat->Prop}{I J:Gh}{w w1 W:World}{mr rb:Nat}{e:KV}{left:BA->Bool}{ks:List BA}{A:OA}{c g c1 i n0 cnt:Nat}{s:BA}{v:Value}
theorem SrtR.new(h:SrtR M I J w w1 mr rb e left ks A c s v n0 cnt){x:BA}{j:Nat}(hx:ks[j]?=some x):s≠x:=by
 rintro rfl;have:=((h.mem s).1 (List.mem_of_getElem? hx)).1;rw[h.l]at this;cases this
theorem SrtR.rel(h:SrtR M I J w w1 mr rb e left ks A c s v n0 cnt)(hm:J.map mr e)(hi:i<=ks.length)(hgt:∀x∈ks.drop i,klt s x=true)(hlt:∀x∈ks.take i,klt x s=true)
  (T:St (Mine [] [keyRw A ks.length c ks]) J J w1 W [] [keyRw (some (ad g 0)) (ks.length+1) c1 (ks.take i++s::ks.drop i)]):SrtH M I J w W mr rb e cnt (.slice (some (ad g 0)) (ks.length+1) c1):=by
 have hl:(ks.take i++s::ks.drop i).length=ks.length+1:=by simp;omega
 refine⟨_,ks.take i++s::ks.drop i,some (ad g 0),c1,by rw[hl],by rw[hl];exact h.st.back0 T,h.rg.kept (hm.keep h.st.inw T) (h.ap.back T).1,by rw[hl];exact(h.ap.back T).2,srt_sorted h.so hgt hlt,fun k=>?_,by rw[hl];have:=h.len;have:=h.lt;omega⟩;rw[mem_mid i,h.mem k];by_cases hk:k=s
 ·subst hk;simp[h.f]
 ·simp[hk]
end
theorem Z9o{P:Program}{ops:Array Oper}{S:World->Prop}{o:Oper}{a:Act}{x:Operand}{T:TypeId}{b:Nat}(hw:Region.wanted o (yielded ops a.tmps)=true)(ho:o.op=.load T x)(hx:a.eval x=.pointer (some (ad b j)))[z:Tsz P T 1 false]{u:Value}(hc:∀W,S W->W.cell? (ad b j)=some u)(hv:u=v):YieldsIf P ops S o v a:=
 y_at hw fun W hW=>by rw[<-hv];exact Q4j ho hx (Q2m (hc W hW) z.a)
section
variable{P:Program}{M:Nat->Prop}{I J:Gh}{w W:World}{L:List Blk}{R:List Rw}{g n c:Nat}{e:TypeId}{xs:List Value}{o:Oper}{a:Act}{Q:EAW}{K:AW}{T:TypeId}{x y:Operand}{v:Value}
theorem X2q{j:Nat}(S:Hid (St M I J w W L (⟨.slice (some (ad g 0)) n c,e,1,n,xs⟩::R)))(ho:o.op=.store T x y)(hx:a.eval x=.pointer (some (ad g j)))(hy:a.eval y=v)(h1:v.oneCell'=true)(hi:(P.info? T).map (·.size)=some 1)(hj:j<n)
  (h:∀W',Hid (St M I J w W' L (⟨.slice (some (ad g 0)) n c,e,1,n,xs.set j v⟩::R))->K (a.put o.dst undef) W'):o.wp P a W K Q:=by
 obtain⟨cur,hh,hc,ht,hnc⟩:=S.out.rcur;rw[Nat.mul_one]at hc ht;have key:=run_storeCells_at P g j e [v] 0 cur W hh b1r (fun u hu=>by simp at hu;rw[hu];exact h1);have hvc:=Q5j h1;have e1:cur.toList.take (j+0)++[v]++cur.toList.drop (j+0+[v].length)=cur.toList.set j v:=by
  rw[List.set_eq_take_append_cons_drop,if_pos (by rw[Array.length_toList];omega)];simp
 rw[e1]at key;have S2:=S.out.rset hh (cur.toList.set j v) b0f;have e2:(cur.toList.set j v).take (n*1)=xs.set j v:=by rw[Nat.mul_one,<-ht,List.take_set]
 rw[e2]at S2;have hrun:(storeVar T (ad g j) v).run P W=.ok () (W.setRow g (cur.toList.set j v).toArray):=by
  cases hq:P.info? T with
  |none=>rw[hq]at hi;cases hi
  |some i=>
   have hz:i.size=1:=by rw[hq]at hi;simpa using hi
   have e3:#[v].toList=[v]:=rfl;rw[<-e3]at key;simp[storeVar,sizeOf,typeInfo,hq,hvc,hz,key]
 unfold Oper.wp execOp;simp only[ho,hx,hy,Instr.storeAt,Instr.sureAddr,Sem.run_bind,Sem.run_pure,Result.andThen_ok,hrun];exact h _ S2
end
theorem z1l{P:Prop}(h:P:=by
 go_loopg [3] e.length (fun cnt s3 wr=>SrtH M I J w wr mr rb e cnt s3)
 case atStart=>
  refine⟨_,[],none,0,rfl,S.out,hrg0,hap0,List.Pairwise.nil,fun k=>?_,by simp⟩;cases findK e k<;>simp
 case round=>
  clear S hrg0 hap0;obtain⟨left,ks,A,c,rfl,S0,hrg,hap,hsk,hmk,hln⟩:=hrel;go_wp2_with (at_next;refine Q1v rfl _ rfl mr rb e left gk rfl hrg ?_ ?_;go_frame)
  ·intro h0;have he:ks=e.map (·.1):=srt_end hsk HU.out.2 fun k=>by rw[hmk k,h0 k];simp
   have hl:ks.length=e.length:=by rw[he];simp
   have HE:=Hd (And.intro he hl);clear hrg hap hsk hmk hln h0 he hl;have S:=Hd S0;go_wp2_with fail
   rw[<-HE.out.1,<-HE.out.2];refine bT ?_;exact ap (L:=[]) gR ⟨rfl,rfl,A,c,rfl,rfl⟩ S0
  ·intro s v w1 cnt1 hs hl hf hrg1 hlt hg1 hs1 hen;have S1:=S0.nexted hap hg1;have hap1:Q4r J w w1 [] [⟨.slice A ks.length c,9,1,ks.length,ks.map Value.string⟩] rb:=⟨hap.l,hap.r,hap.j,hap.ge,by rw[hs1];exact hap.lt⟩
   have HL:=Hd (SrtR.mk S1 hap1 hrg1 hsk hmk hln hlt hl hf);have S:=Hd S1.sub;have hN1:ks.length+1<2 ^ 32:=by have:=HU.out.1;omega
   clear S0 S1 hap hap1 hrg hrg1 hsk hmk hln hlt hg1 hs1 hl hf;go_wp2_with (first|refine Q9a (sub:=[.string s]) S rfl rfl underlying32 rfl ?_;clear S;intro z W S|refine Q7e S rfl rfl rfl rfl underlying32 in9 rfl hN1 ?_;clear S;intro A1 c1 W S)
   obtain⟨g,rfl⟩:=row_g S.out;go_loopg [5] ks.length (fun i s5 wr=>s5=.int .i64 (i:Nat)/\i<=ks.length/\(∃T,Hid (St (Mine [] [⟨.slice A ks.length c,9,1,ks.length,ks.map Value.string⟩]) J J w1 wr T [⟨.slice (some (ad g 0)) (ks.length+1) c1,9,1,ks.length+1,(ks.take i++s::ks.drop i).map Value.string⟩]))/\∀x∈ks.drop i,klt s x=true)
   case atStart=>exact⟨by simp,Nat.le_refl _,⟨_,by simpa using S⟩,by simp⟩
   case round=>
    clear S;obtain⟨rfl,hi,⟨T,S⟩,hgt⟩:=hrel;have HG:=Hd (And.intro hi hgt);clear hgt hi;by_cases hi0:gk=0
    ·subst hi0;go_wp2_with fail
     refine Rg S [] [⟨.slice (some (ad g 0)) (ks.length+1) c1,9,1,ks.length+1,(ks.take 0++s::ks.drop 0).map Value.string⟩] [] [0,1,2,3,4,5,6,7,8,9,10,11,12,13] 0 fun W S=>?_;refine tk2 ?_;refine En ?_;go_wp2_with fail
     go_roundg cnt1
     case measure=>exact HL.out.lt
     case rel=>exact HL.out.rel HM.out (i:=0) HG.out.1 HG.out.2 (fun y hy=>absurd hy b0f) (keep S)
    ·obtain⟨j,rfl⟩:∃j,gk=j+1:=⟨gk -1,by omega⟩
     obtain⟨x,hx⟩:∃x,ks[j]?=some x:=gx (by have:=HG.out.1;omega);have HJ:=Hd (nd4 (show j+1<ks.length+1 by have:=HG.out.1;omega) (show j<ks.length+1 by have:=HG.out.1;omega) (srt_at (s:=s) hx).1 (srt_at (s:=s) hx).2);have hj0:(0:Int)<=(j:Int)+1:=by omega
     have hj1:j<ks.length:=by have:=HG.out.1;omega
     have hj2:j<ks.length+1:=by omega
     have hj3:(j:Int)<(ks.length:Int)+1:=by omega
     have hw:IntKind.i64.wrap (j:Int)=(j:Int):=by rw[IntKind.wrap_i64];have:=HU.out.1;have:=HL.out.len;omega
     by_cases hk:klt s x=true
     ·have hbl:Op.bytesLess s.toList x.toList=true:=by rw[Z1t];exact hk
      go_wp2_with fail
      refine Rg S [] [⟨.slice (some (ad g 0)) (ks.length+1) c1,9,1,ks.length+1,(ks.take (j+1)++s::ks.drop (j+1)).map Value.string⟩] [] [0,1,2,3,4,5,6,7,8,9,10,11,12,13] 0 fun W S=>?_;refine tk25 ?_;refine En ?_;go_wp2_with fail
      refine Rg S [] [⟨.slice (some (ad g 0)) (ks.length+1) c1,9,1,ks.length+1,(ks.take (j+1)++s::ks.drop (j+1)).map Value.string⟩] [15] [0,1,5,6,7,8,9,10,11,12,13,14] 6 fun W S=>?_;refine tk25 ?_;refine Z4d [2,3,4] 3 kr rfl kr (vw S gR) ?_;refine tkf ?_;refine Sh [16] 1 15 fun KK hKK=>?_;refine X2q (v:=.string x) (j:=j+1) S rfl rfl rfl rfl kr HJ.out.1 ?_;clear S;intro W S;refine hKK.out _ _ ?_;clear hKK KK;refine tkf ?_;refine Sh [] 0 17 fun KK hKK=>?_;refine X2q (v:=.string s) (j:=j) S rfl rfl rfl rfl kr HJ.out.2.1 ?_;clear S;intro W S;refine hKK.out _ _ ?_;clear hKK KK;refine yf ?_;refine En ?_;rw[srt_row hx]at S;go_wp2_with fail
      go_roundg j
      case measure=>omega
      case rel=>
       refine⟨by simp,by have:=HG.out.1;omega,⟨_,S⟩,fun y hy=>?_⟩;rw[Q1h hx]at hy;rcases List.mem_cons.1 hy with rfl|hy
       ·exact hk
       ·exact HG.out.2 y hy
     ·have hk:klt s x=false:=by simpa using hk
      have hbl:Op.bytesLess s.toList x.toList=false:=by rw[Z1t];exact hk
      go_wp2_with fail
      refine Rg S [] [⟨.slice (some (ad g 0)) (ks.length+1) c1,9,1,ks.length+1,(ks.take (j+1)++s::ks.drop (j+1)).map Value.string⟩] [] [0,1,2,3,4,5,6,7,8,9,10,11,12,13] 0 fun W S=>?_;refine tk25 ?_;refine En ?_;go_wp2_with fail
      go_roundg cnt1
      case measure=>exact HL.out.lt
      case rel=>exact HL.out.rel HM.out (i:=j+1) HG.out.1 HG.out.2 (srt_low HL.out.so hx ((Q5r (HL.out.new hx)).resolve_left (by rw[hk];decide))) (keep S)):P:=h
theorem X5t(hm:J.map mr e)(hlen:e.length<2 ^ 30):
  Ac 163 #[.map (some mr)] J [] [] fun u K L' R'=>K=J/\L'=[]/\∃A c,u=.slice A e.length c/\R'=[⟨.slice A e.length c,9,1,e.length,(e.map (·.1)).map Value.string⟩]:=by
 intro M I w W S;have HU:=Hd (And.intro hlen hm.sorted);have HM:=Hd hm;clear hm hlen;go_enter func163,ntmps163;replace S:=Hd (S.out.nilrow 9 1);go_wp2_with (at_range;refine Q1g rfl _ 125 214 rfl underlying125 mr e rfl (HM.out.at S.out.inw) ?_;intro w0 hrg0 hg0 hs0;have hap0:=Q4r.of_new (W':=w0) S.out b0m;replace S:=Hd (S.out.ranged hg0);obtain⟨rb,hrb⟩:∃rb,rb=W.heap.size:=⟨_,rfl⟩;rw[<-hrb]at hrg0 hap0⊢;clear hg0 hs0 hrb;go_frame)
 exact z1l
theorem X3t(hm:J.map mr e)(hlen:e.length<2 ^ 30):
  Ac 146 #[.map (some mr)] J [] [] fun u K L' R'=>K=J/\L'=[]/\∃A c,u=.slice A e.length c/\R'=[⟨.slice A e.length c,9,1,e.length,(e.map (·.1)).map Value.string⟩]:=by
 intro M I w W S;have HU:=Hd (And.intro hlen hm.sorted);have HM:=Hd hm;clear hm hlen;go_enter func146,ntmps146;replace S:=Hd (S.out.nilrow 9 1);go_wp2_with (at_range;refine Q1g rfl _ 283 20 rfl underlying283 mr e rfl (HM.out.at S.out.inw) ?_;intro w0 hrg0 hg0 hs0;have hap0:=Q4r.of_new (W':=w0) S.out b0m;replace S:=Hd (S.out.ranged hg0);obtain⟨rb,hrb⟩:∃rb,rb=W.heap.size:=⟨_,rfl⟩;rw[<-hrb]at hrg0 hap0⊢;clear hg0 hs0 hrb;go_frame)
 exact z1l
end
end Go.Proofs.YtbmklgemmjgjfaaGreat
