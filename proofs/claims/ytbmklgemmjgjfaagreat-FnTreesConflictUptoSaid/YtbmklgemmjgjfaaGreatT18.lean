/- Part 18: Cmp, Ele, Cee, Wcm, Pth, Fob. -/
import Derived.Lib.Bytealg
import Derived.Laws.Externs
import Derived.Test.YtbmklgemmjgjfaaGreatT10
import Derived.Test.YtbmklgemmjgjfaaGreatT15
namespace Go.Proofs.YtbmklgemmjgjfaaGreat
open List (length_cons length_drop length_nil map_cons mem_cons mem_cons_of_mem mem_cons_self mem_flatMap mem_of_getElem?)
open Go.RowKit Go.Maps Tryz
set_option linter.unusedVariables false
set_option linter.unusedSimpArgs false
set_option maxRecDepth 100000
set_option maxHeartbeats 4000000
variable{I J:Gh}{a:List PE}
section
theorem Q7v(a b:PE):Lib.compareBytes a.data.toList b.data.toList=scmp a b:=by
 unfold scmp plt klt;generalize a.data.toList=x;generalize b.data.toList=y;induction x generalizing y with
 |nil=>cases y<;>simp[Lib.compareBytes,bytesBefore]
 |cons p x ih=>
  cases y with
  |nil=>simp[Lib.compareBytes,bytesBefore]
  |cons q y=>
   simp only[Lib.compareBytes,bytesBefore];by_cases h1:p<q
   ·simp[h1]
   ·by_cases h2:q<p
    ·simp[h1,h2];intro e;subst e;exact absurd h2 (UInt8.lt_irrefl _)
    ·have e:p=q:=UInt8.le_antisymm (UInt8.not_lt.1 h2) (UInt8.not_lt.1 h1);subst e;simp[h1,ih]
theorem X4b(a b:BA)(w:World):Calls prog 285 #[.string a,.string b] w fun e w'=>e=.returned (.int .i64 (scmp a b))/\w'=w:=by
 go_enter func285,ntmps285;go_wp2_with fail
 rw[run_callFunc_extern func290 kr kr kr (e:=Extern.BytealgCompare.compare) kr,Lib.run_compareString,Q7v];go_wp2_with fail
 go_ret;exact⟨rfl,rfl⟩
theorem X2k(a b:BA)(w:World):Calls prog 270 #[.string a,.string b] w fun e w'=>e=.returned (.int .i64 (scmp a b))/\w'=w:=by
 go_enter func270,ntmps270;go_wp2_with (go_at_call 285;refine(X4b _ _ _).mono ?_;rintro e w' ⟨rfl,rfl⟩)
 go_ret;exact⟨rfl,rfl⟩
variable{k l:PE}{x y:Nat}
theorem X2r(hx:Nm I x k)(hy:Nm I y l)(w:World)(hi:I.In w):Calls prog 251 #[Q3u x,Q3u y] w (Got Nix I w (.int .i64 (scmp k l))):=by
 unfold Q3u;refine Q0c (M:=Nix) hi ?_;intro W S;go_enter func251,ntmps251;go_wp2_with (first|refine wk ?_|refine Ws ?_;clear S;intro W S|refine wn ?_;clear S;intro b W S)
 have c0:=S.out.cellAt (.tail .head) 0 rfl;have c1:=S.out.cellAt .head 0 rfl;have k0:=hx.1.at S.out.inw;have k1:=hy.1.at S.out.inw;go_quiet (first|(go_at_call 270;refine Calls.quiet_of_same (X2k _ _ _)));go_wp2_with fail
 go_ret;exact⟨rfl,S.out.step.drewN _⟩
theorem z0h{P:Prop}(h:P:=by
 go_wp2_with (first|refine wk ?_|refine Ws ?_;clear S;intro W S|refine wn ?_;clear S;intro b W S)
 refine(X2r hx hy _ S.out.inw).mono ?_;rintro e W2 ⟨rfl,st⟩;replace S:=Hd (S.out.call st);go_wp2_with fail
 go_ret;exact⟨rfl,S.out.step⟩):P:=h
theorem X4d(hx:Nm I x k)(hy:Nm I y l)(w:World)(hi:I.In w):Calls prog 250 #[Q3u x,Q3u y] w (Got Nix I w (.int .i64 (scmp k l))):=by
 unfold Q3u;refine Q0c (M:=Nix) hi ?_;intro W S;go_enter func250,ntmps250;exact z0h
def ndAgg(n:Nat×Nat):Value:=.agg #[.pointer (some ⟨n.1,0,none⟩),pn,pn,pn,.pointer (some ⟨n.2,0,none⟩)]
theorem X4h{n:Nat×Nat}(hx:Nm I n.1 k)(hy:Nm I y l)(w:World)(hi:I.In w):Calls prog 254 #[ndAgg n,Q3u y] w (Got Nix I w (.int .i64 (scmp k l))):=by
 obtain⟨x,z⟩:=n;unfold ndAgg Q3u;refine Q0c (M:=Nix) hi ?_;intro W S;go_enter func254,ntmps254;exact z0h
end
section
def cmpI(a b:Int):Int:=if a<b then -1 else if b<a then 1 else 0
theorem Q6k(a b:Int)(w:World):Calls prog 178 #[.int .i64 a,.int .i64 b] w fun e w'=>e=.returned (.int .i64 (cmpI a b))/\w'=w:=by
 unfold cmpI;go_enter func178,ntmps178;by_cases h1:a<b
 ·go_wp2_with fail
  go_ret;exact⟨by simp[h1],rfl⟩
 ·by_cases h2:b<a
  ·go_wp2_with fail
   go_ret;exact⟨by simp[h1,h2],rfl⟩
  ·go_wp2_with fail
   go_ret;exact⟨by simp[h1,h2],rfl⟩
theorem Z0d(I:Gh)(s:PE)(w:World)(hi:I.In w):Calls prog 203 #[Q4p s] w (Got Nix I w (.int .i64 0)):=by
 unfold Q4p;refine Q0c (M:=Nix) hi ?_;intro W S;go_enter func203,ntmps203;go_wp2_with (first|refine wk ?_|refine Ws ?_;clear S;intro W S|refine wn ?_;clear S;intro _ W S)
 go_ret;exact⟨rfl,S.out.step⟩
theorem X6l(I:Gh)(s:PE)(w:World)(hi:I.In w):Calls prog 120 #[Q4p s] w (Got Nix I w (Q4p s)):=by
 unfold Q4p;refine Q0c (M:=Nix) hi ?_;intro W S;go_enter func120,ntmps120;go_wp2_with (first|refine wk ?_|refine Ws ?_;clear S;intro W S|refine wn ?_;clear S;intro _ W S)
 have HE:=S.out.heap .head;refine bodyPost_ret (results_cell_row rfl _ _ _ _ _ _ _ rfl HE underlying173 rfl sz173) rfl ?_;exact⟨rfl,S.out.step⟩
theorem X2s(I:Gh)(a b:BA)(ha:a.size<=maxLen)(hb:b.size<=maxLen)(w:World)(hi:I.In w):Calls prog 231 #[.string a,.string b] w (Got Nix I w (.int .i64 (scmp a b))):=by
 have hac:a.data.toList.length=a.size:=by rw[Array.length_toList];rfl
 have hbc:b.data.toList.length=b.size:=by rw[Array.length_toList];rfl
 have HL:=Hd (And.intro hac hbc);have HC:=Hd (Q7v a b);have S0:=Hd (Step.refl (M:=Nix) hi);clear hac hbc;unfold maxLen at ha hb;go_enter func231,ntmps231;go_wp2_with fail
 go_loopg [5] a.size (fun g s5 wr=>∃i:Nat,s5=.int .i64 (i:Nat)/\i<=a.size/\i<=b.size/\g=a.size -i/\Hid (Step Nix I I w wr)/\Hid (Lib.compareBytes (a.data.toList.drop i) (b.data.toList.drop i)=scmp a b))
 case atStart=>exact⟨0,rfl,Nat.zero_le _,Nat.zero_le _,rfl,S0,HC⟩
 case round=>
  clear S0;obtain⟨i,rfl,hia,hib,hg,S0,H⟩:=hrel;by_cases h1:i<a.size
  ·by_cases h2:i<b.size
   ·obtain⟨x,hx⟩:∃x,a.data.toList[i]?=some x:=gx (by rw[HL.out.1];exact h1);obtain⟨y,hy⟩:∃y,b.data.toList[i]?=some y:=gx (by rw[HL.out.2];exact h2);have hd1:=Q1h hx;have hd2:=Q1h hy;have H2:=H.out;rw[hd1,hd2]at H2;simp only[Lib.compareBytes]at H2;have HH:=Hd H2;have hx2:a[i]'h1=x:=by have h:a.data[i]'h1=x:=(by simpa using(List.getElem?_eq_some_iff.1 hx).2);exact h
    have hy2:b[i]'h2=y:=by have h:b.data[i]'h2=y:=(by simpa using(List.getElem?_eq_some_iff.1 hy).2);exact h
    clear H2 hd1 hd2 hx hy;by_cases hxy:x=y
    ·subst hxy;go_wp2_with fail
     go_quiet (fail);go_wp2_with fail
     go_roundg (a.size -(i+1))
     case measure=>omega
     case rel=>
      refine⟨i+1,rfl,h1,h2,rfl,S0.out.drewN _,?_⟩;have:=HH.out;rw[if_neg (UInt8.lt_irrefl _),if_neg (UInt8.lt_irrefl _)]at this;exact this
    ·have hx3:=UInt8.toNat_lt x;have hy3:=UInt8.toNat_lt y;have hn:¬((x.toNat:Int)=(y.toNat:Int)):=fun e=>hxy (UInt8.toNat_inj.1 om);go_wp2_with fail
     go_quiet (fail);have S1:=Hd (S0.out.drewN nq);generalize wr.drewN nq=W1 at S1⊢;go_wp2_with fail
     go_quiet (first|(go_at_call 178;refine Calls.quiet_of_same (Q6k _ _ _)));go_wp2_with fail
     go_ret;refine⟨?_,S1.out.drewN _⟩;have:=HH.out;rw[<-this];unfold cmpI;by_cases k1:x<y
     ·have k2:(x.toNat:Int)<(y.toNat:Int):=by have:=UInt8.lt_iff_toNat_lt.1 k1;omega
      rw[if_pos k1,if_pos k2];rfl
     ·have k2:¬((x.toNat:Int)<(y.toNat:Int)):=fun h=>k1 (UInt8.lt_iff_toNat_lt.2 om);have k3:(y.toNat:Int)<(x.toNat:Int):=by omega
      have k4:y<x:=UInt8.lt_iff_toNat_lt.2 om;rw[if_neg k1,if_neg k2,if_pos k4,if_pos k3];rfl
   ·have e2:i=b.size:=by omega
    subst e2;have h3:(b.size:Int)<(a.size:Int):=by omega
    go_wp2_with (go_at_call 178;refine(Q6k _ _ _).mono ?_;rintro e w' ⟨rfl,rfl⟩)
    go_ret;refine⟨?_,S0.out⟩;have H2:=H.out;rw[@List.drop_eq_nil_of_le _ b.data.toList _ (by rw[HL.out.2];exact Nat.le_refl _)]at H2;rw[<-H2];cases hq:a.data.toList.drop b.size with
    |nil=>have:=congrArg List.length hq;rw[length_drop,HL.out.1]at this;simp at this;omega
    |cons p l=>
     simp only[Lib.compareBytes,cmpI];rw[if_neg om,if_pos om];rfl
  ·have e1:i=a.size:=by omega
   subst e1;by_cases h2:a.size<b.size
   ·have h3:(a.size:Int)<(b.size:Int):=by omega
    go_wp2_with (go_at_call 178;refine(Q6k _ _ _).mono ?_;rintro e w' ⟨rfl,rfl⟩)
    go_ret;refine⟨?_,S0.out⟩;have H2:=H.out;rw[@List.drop_eq_nil_of_le _ a.data.toList _ (by rw[HL.out.1];exact Nat.le_refl _)]at H2;rw[<-H2];cases hq:b.data.toList.drop a.size with
    |nil=>have:=congrArg List.length hq;rw[length_drop,HL.out.2]at this;simp at this;omega
    |cons p l=>
     simp only[Lib.compareBytes,cmpI];rw[if_pos om];rfl
   ·have e2:b.size=a.size:=by omega
    go_wp2_with (go_at_call 178;refine(Q6k _ _ _).mono ?_;rintro e w' ⟨rfl,rfl⟩)
    go_ret;refine⟨?_,S0.out⟩;have H2:=H.out;rw[@List.drop_eq_nil_of_le _ a.data.toList _ (by rw[HL.out.1];exact Nat.le_refl _),@List.drop_eq_nil_of_le _ b.data.toList _ (by rw[HL.out.2,e2];exact Nat.le_refl _)]at H2;rw[<-H2];simp[Lib.compareBytes,cmpI]
end
section
theorem cmpElems_x(I:Gh)(s t:PE)(hs:ByteArray.size s<=maxLen)(ht:ByteArray.size t<=maxLen)(w:World)(hi:I.In w):Calls prog 177 #[Q4p s,Q4p t] w (Got Nix I w (.int .i64 (scmp s t))):=by
 unfold Q4p;refine Q0c (M:=Nix) hi ?_;intro W S;go_enter func177,ntmps177;go_wp2_with (first|refine wk ?_|refine Ws ?_;clear S;intro W S|refine wn ?_;clear S;(first|(fail_if_success revert b0);intro b0 W S|(fail_if_success revert b1);intro b1 W S|intro _ W S))
 go_region_held3 (fun W=>(W.cell? ⟨b0,0,none⟩=some (.int .i64 0)/\W.cell? ⟨b0,1,none⟩=some (.string s)/\W.cell? ⟨b0,2,none⟩=some (sn)/\W.cell? ⟨b0,3,none⟩=some (sn)/\W.cell? ⟨b0,4,none⟩=some (.int .i64 0)/\W.cell? ⟨b0,5,none⟩=some (.int .i64 0)/\W.cell? ⟨b0,6,none⟩=some (.float .f64 0)/\W.cell? ⟨b0,7,none⟩=some (.string ⟨#[]⟩)/\W.cell? ⟨b0,8,none⟩=some (sn)/\W.cell? ⟨b0,9,none⟩=some (sn)/\W.cell? ⟨b0,10,none⟩=some (.int .i64 0))/\(W.cell? ⟨b1,0,none⟩=some (.int .i64 0)/\W.cell? ⟨b1,1,none⟩=some (.string t)/\W.cell? ⟨b1,2,none⟩=some (sn)/\W.cell? ⟨b1,3,none⟩=some (sn)/\W.cell? ⟨b1,4,none⟩=some (.int .i64 0)/\W.cell? ⟨b1,5,none⟩=some (.int .i64 0)/\W.cell? ⟨b1,6,none⟩=some (.float .f64 0)/\W.cell? ⟨b1,7,none⟩=some (.string ⟨#[]⟩)/\W.cell? ⟨b1,8,none⟩=some (sn)/\W.cell? ⟨b1,9,none⟩=some (sn)/\W.cell? ⟨b1,10,none⟩=some (.int .i64 0))) (first|exact⟨Q9b (St.heap S.out (.tail .head)),Q9b (St.heap S.out .head)⟩|exact⟨Q9b (St.heap S.out.drew (.tail .head)),Q9b (St.heap S.out.drew .head)⟩|go_keep) (first|(go_at_call 203;refine Q4a b0j ?_;clear S;intro S;refine got S (Z0d I _) ?_;clear S;intro W S)|(go_at_call 178;refine(Q6k _ _ _).mono ?_;rintro e w' ⟨rfl,rfl⟩));rw[show cmpI 0 0=0 from rfl];go_wp2_with (first|refine wk ?_|refine Ws ?_;clear S;intro W S|refine wn ?_;clear S;(first|(fail_if_success revert b0);intro b0 W S|(fail_if_success revert b1);intro b1 W S|intro _ W S))
 refine got S (Z0d I _) ?_;clear S;intro W S;go_wp2_with (first|refine wk ?_|refine Ws ?_;clear S;intro W S|refine wn ?_;clear S;(first|(fail_if_success revert b0);intro b0 W S|(fail_if_success revert b1);intro b1 W S|intro _ W S))
 refine got S (X2s I _ _ hs ht) ?_;clear S;intro W S;go_wp2_with fail
 go_ret;exact⟨rfl,S.out.step⟩
theorem eqElems_x(I:Gh)(s t:PE)(w:World)(hi:I.In w):Calls prog 192 #[Q4p s,Q4p t] w (Got Nix I w (.bool (decide (s=t)))):=by
 unfold Q4p;refine Q0c (M:=Nix) hi ?_;intro W S;go_enter func192,ntmps192;go_wp2_with (first|refine wk ?_|refine Ws ?_;clear S;intro W S|refine wn ?_;clear S;(first|(fail_if_success revert b0);intro b0 W S|(fail_if_success revert b1);intro b1 W S|intro _ W S))
 go_region_held3 (fun W=>(W.cell? ⟨b0,0,none⟩=some (.int .i64 0)/\W.cell? ⟨b0,1,none⟩=some (.string s)/\W.cell? ⟨b0,2,none⟩=some (sn)/\W.cell? ⟨b0,3,none⟩=some (sn)/\W.cell? ⟨b0,4,none⟩=some (.int .i64 0)/\W.cell? ⟨b0,5,none⟩=some (.int .i64 0)/\W.cell? ⟨b0,6,none⟩=some (.float .f64 0)/\W.cell? ⟨b0,7,none⟩=some (.string ⟨#[]⟩)/\W.cell? ⟨b0,8,none⟩=some (sn)/\W.cell? ⟨b0,9,none⟩=some (sn)/\W.cell? ⟨b0,10,none⟩=some (.int .i64 0))/\(W.cell? ⟨b1,0,none⟩=some (.int .i64 0)/\W.cell? ⟨b1,1,none⟩=some (.string t)/\W.cell? ⟨b1,2,none⟩=some (sn)/\W.cell? ⟨b1,3,none⟩=some (sn)/\W.cell? ⟨b1,4,none⟩=some (.int .i64 0)/\W.cell? ⟨b1,5,none⟩=some (.int .i64 0)/\W.cell? ⟨b1,6,none⟩=some (.float .f64 0)/\W.cell? ⟨b1,7,none⟩=some (.string ⟨#[]⟩)/\W.cell? ⟨b1,8,none⟩=some (sn)/\W.cell? ⟨b1,9,none⟩=some (sn)/\W.cell? ⟨b1,10,none⟩=some (.int .i64 0))) (first|exact⟨Q9b (St.heap S.out (.tail .head)),Q9b (St.heap S.out .head)⟩|exact⟨Q9b (St.heap S.out.drew (.tail .head)),Q9b (St.heap S.out.drew .head)⟩|go_keep) (first|(go_at_call 203;refine Q4a b0j ?_;clear S;intro S;refine got S (Z0d I _) ?_;clear S;intro W S));go_wp2_with (first|refine wk ?_|refine Ws ?_;clear S;intro W S|refine wn ?_;clear S;(first|(fail_if_success revert b0);intro b0 W S|(fail_if_success revert b1);intro b1 W S|intro _ W S))
 refine got S (Z0d I _) ?_;clear S;intro W S;go_wp2_with (first|refine wk ?_|refine Ws ?_;clear S;intro W S|refine wn ?_;clear S;(first|(fail_if_success revert b0);intro b0 W S|(fail_if_success revert b1);intro b1 W S|intro _ W S))
 go_ret;exact⟨congrArg (fun q=>Ending.returned (Value.bool q)) (Q6p s t),S.out.step⟩
end
section
variable{x:PE}
theorem Z3i{a:OA}{p:List PE}(h:Q0u I a (p.flatMap Q0s)){i:Nat}(hx:p[i]?=some x):∃b o,a=some ⟨b,o,none⟩/\∀(j:Nat) v,(Q0s x)[j]?=some v->I.cell ⟨b,o+i*11+j,none⟩ v:=by
 rcases h with⟨_,e⟩|⟨b,o,e,h⟩
 ·have h0:p.length=0:=by
   have:=Z2a Q3n p;rw[e]at this;simp only[length_nil]at this;omega
  have:=(List.getElem?_eq_some_iff.1 hx).1;omega
 ·refine⟨b,o,e,fun j v hj=>?_⟩;have hj11:j<11:=(List.getElem?_eq_some_iff.1 hj).1;have:=h (i*11+j) v ((X6w Q3n hx hj11).trans hj);rwa [show o+i*11+j=o+(i*11+j) by omega]
theorem Z4c{b o:Nat}(h:∀(j:Nat) v,(Q0s x)[j]?=some v->I.cell ⟨b,o+j,none⟩ v){W:World}(hi:I.In W):
  W.cell? ⟨b,o,none⟩=some (.int .i64 0)/\W.cell? ⟨b,o+1,none⟩=some (.string x)/\W.cell? ⟨b,o+2,none⟩=some (sn)/\W.cell? ⟨b,o+3,none⟩=some (sn)/\W.cell? ⟨b,o+4,none⟩=some (.int .i64 0)/\W.cell? ⟨b,o+5,none⟩=some (.int .i64 0)/\W.cell? ⟨b,o+6,none⟩=some (.float .f64 0)/\W.cell? ⟨b,o+7,none⟩=some (.string ⟨#[]⟩)/\W.cell? ⟨b,o+8,none⟩=some (sn)/\W.cell? ⟨b,o+9,none⟩=some (sn)/\W.cell? ⟨b,o+10,none⟩=some (.int .i64 0):=
 ⟨(h 0 _ rfl).at hi,(h 1 _ rfl).at hi,(h 2 _ rfl).at hi,(h 3 _ rfl).at hi,(h 4 _ rfl).at hi,(h 5 _ rfl).at hi,(h 6 _ rfl).at hi,(h 7 _ rfl).at hi,(h 8 _ rfl).at hi,(h 9 _ rfl).at hi,(h 10 _ rfl).at hi⟩
def wcmp(p q:List PE):Int:=if wlt p q=true then -1 else if wlt q p=true then 1 else 0
variable{b:List PE}
theorem wcmp_lt:wcmp a b<0<->wlt a b=true:=by
 unfold wcmp;by_cases h:wlt a b=true
 ·simp[h]
 ·by_cases k:wlt b a=true<;>simp[h,k]
theorem wcmp_eq:wcmp a b=0<->a=b:=by
 unfold wcmp;by_cases h:wlt a b=true
 ·have:a≠b:=fun e=>by subst e;rw[Q6g]at h;cases h
  simp[h,this]
 ·by_cases k:wlt b a=true
  ·have:a≠b:=fun e=>by subst e;rw[Q6g]at k;cases k
   simp[h,k,this]
  ·simp[h,k];cases Classical.em (a=b)with
   |inl e=>exact e
   | inr e => rcases Z5c e with q|q
              ·exact absurd q h
              ·exact absurd q k
theorem Q8p{α:Type}(l:List α):l.isEmpty=decide (l.length=0):=by cases l<;>rfl
theorem X2u(a b:PE)(p q:List PE):wcmp (a::p) (b::q)=if a=b then wcmp p q else if p.isEmpty != q.isEmpty then(if p.isEmpty=true then -1 else 1)else scmp a b:=by
 unfold wcmp;by_cases h:a=b
 ·subst h;simp[wlt]
 ·have h2:¬b=a:=fun e=>h e.symm;simp only[wlt,if_neg h,if_neg h2];cases hp:p.isEmpty<;>cases hq:q.isEmpty<;>simp[scmp]
theorem nil_wcmp(q:List PE):wcmp [] q=if q.isEmpty=true then 0 else -1:=by cases q<;>simp[wcmp,wlt]
theorem wcmp_nil(p:List PE):wcmp p []=if p.isEmpty=true then 0 else 1:=by cases p<;>simp[wcmp,wlt]
theorem Q6c(I:Gh)(p q:List PE)(pa qa:OA)(pc qc:Nat)(hp:Q0u I pa (p.flatMap Q0s))(hq:Q0u I qa (q.flatMap Q0s))(hpl:p.length<=2 ^ 30)(hql:q.length<=2 ^ 30)
  (hpz:∀k∈p,ByteArray.size k<=maxLen)(hqz:∀k∈q,ByteArray.size k<=maxLen)(w:World)(hi:I.In w):
  Calls prog 119 #[.slice pa p.length pc,.slice qa q.length qc] w (Got Nix I w (.int .i64 (wcmp p q))):=by
 have HF:=Hd (nd4 hp hq hpz hqz);clear hp hq hpz hqz;refine Q0c (M:=Nix) hi ?_;intro W S;go_enter func119,ntmps119;go_wp2_with (first|refine wk ?_|refine Ws ?_;clear S;intro W S|refine wn ?_;clear S;(first|(fail_if_success revert b0);intro b0 W S|(fail_if_success revert b1);intro b1 W S|(fail_if_success revert b2);intro b2 W S|intro _ W S))
 go_loopg [5] p.length (fun g s5 wr=>∃i:Nat,s5=.int .i64 (i:Nat)/\i<=p.length/\i<=q.length/\g=p.length -i/\Hid (St Nix I I w wr [] [])/\Hid (wcmp (p.drop i) (q.drop i)=wcmp p q))
 case atStart=>exact⟨0,rfl,Nat.zero_le _,Nat.zero_le _,rfl,S,rfl⟩
 case round=>
  clear S;obtain⟨i,rfl,hia,hib,hg,S,H⟩:=hrel;by_cases h1:i<p.length
  ·by_cases h2:i<q.length
   ·obtain⟨x,hx⟩:∃x,p[i]?=some x:=gx h1;obtain⟨y,hy⟩:∃y,q[i]?=some y:=gx h2;obtain⟨b1,o1,rfl,e1⟩:=Z3i HF.out.1 hx;obtain⟨b2,o2,rfl,e2⟩:=Z3i HF.out.2.1 hy;have hxz:=HF.out.2.2.1 x (mem_of_getElem? hx);have hyz:=HF.out.2.2.2 y (mem_of_getElem? hy);have HH:Hid (p.drop i=x::p.drop (i+1)/\q.drop i=y::q.drop (i+1)):=⟨Q1h hx,Q1h hy⟩
    clear hx hy;have HE:=Hd (And.intro e1 e2);clear e1 e2;go_wp2_with (first|refine wk ?_|refine Ws ?_;clear S;intro W S|refine wn ?_;clear S;(first|(fail_if_success revert b0);intro b0 W S|(fail_if_success revert b1);intro b1 W S|(fail_if_success revert b2);intro b2 W S|intro _ W S))
    go_region_held3 (fun W=>(W.cell? ⟨b1,o1+i*11,none⟩=some (.int .i64 0)/\W.cell? ⟨b1,o1+i*11+1,none⟩=some (.string x)/\W.cell? ⟨b1,o1+i*11+2,none⟩=some (sn)/\W.cell? ⟨b1,o1+i*11+3,none⟩=some (sn)/\W.cell? ⟨b1,o1+i*11+4,none⟩=some (.int .i64 0)/\W.cell? ⟨b1,o1+i*11+5,none⟩=some (.int .i64 0)/\W.cell? ⟨b1,o1+i*11+6,none⟩=some (.float .f64 0)/\W.cell? ⟨b1,o1+i*11+7,none⟩=some (.string ⟨#[]⟩)/\W.cell? ⟨b1,o1+i*11+8,none⟩=some (sn)/\W.cell? ⟨b1,o1+i*11+9,none⟩=some (sn)/\W.cell? ⟨b1,o1+i*11+10,none⟩=some (.int .i64 0))/\(W.cell? ⟨b2,o2+i*11,none⟩=some (.int .i64 0)/\W.cell? ⟨b2,o2+i*11+1,none⟩=some (.string y)/\W.cell? ⟨b2,o2+i*11+2,none⟩=some (sn)/\W.cell? ⟨b2,o2+i*11+3,none⟩=some (sn)/\W.cell? ⟨b2,o2+i*11+4,none⟩=some (.int .i64 0)/\W.cell? ⟨b2,o2+i*11+5,none⟩=some (.int .i64 0)/\W.cell? ⟨b2,o2+i*11+6,none⟩=some (.float .f64 0)/\W.cell? ⟨b2,o2+i*11+7,none⟩=some (.string ⟨#[]⟩)/\W.cell? ⟨b2,o2+i*11+8,none⟩=some (sn)/\W.cell? ⟨b2,o2+i*11+9,none⟩=some (sn)/\W.cell? ⟨b2,o2+i*11+10,none⟩=some (.int .i64 0))) (first|exact⟨Z4c HE.out.1 S.out.inw,Z4c HE.out.2 S.out.inw⟩|exact⟨Z4c HE.out.1 S.out.drew.inw,Z4c HE.out.2 S.out.drew.inw⟩|go_keep) (first|(go_at_call 177;refine Q4a b0j ?_;clear S;intro S;refine got S (cmpElems_x I _ _ hxz hyz) ?_;clear S;intro W S));by_cases hxy:x=y
    ·rw[X5n.2 hxy];go_wp2_with fail
     go_roundg (p.length -(i+1))
     case measure=>omega
     case rel=>
      refine⟨i+1,rfl,h1,h2,rfl,S,?_⟩;have:=H.out;rw[HH.out.1,HH.out.2,X2u,if_pos hxy]at this;exact this
    ·have hc:¬(scmp x y=0):=fun e=>hxy (X5n.1 e);have HR:=H.out;rw[HH.out.1,HH.out.2,X2u,if_neg hxy]at HR;have ep:(p.drop (i+1)).isEmpty=decide (i+1=p.length):=by
      rw[Q8p,length_drop];exact decide_eq_decide.2 om
     have eq:(q.drop (i+1)).isEmpty=decide (i+1=q.length):=by
      rw[Q8p,length_drop];exact decide_eq_decide.2 om
     rw[ep,eq]at HR;have HRR:=Hd HR;clear HR ep eq;by_cases k1:i+1=p.length
     ·have hA:((i:Int)==(p.length:Int) -1)=true:=by simp;omega
      by_cases k2:i+1=q.length
      ·have hB:((i:Int)==(q.length:Int) -1)=true:=by simp;omega
       go_wp2_with fail
       go_ret;exact⟨by rw[<-HRR.out,decide_eq_true k1,decide_eq_true k2];rfl,S.out.step⟩
      ·have hB:((i:Int)==(q.length:Int) -1)=false:=by simp;omega
       go_wp2_with fail
       go_ret;exact⟨by rw[<-HRR.out,decide_eq_true k1,decide_eq_false k2];rfl,S.out.step⟩
     ·have hA:((i:Int)==(p.length:Int) -1)=false:=by simp;omega
      by_cases k2:i+1=q.length
      ·have hB:((i:Int)==(q.length:Int) -1)=true:=by simp;omega
       go_wp2_with fail
       go_ret;exact⟨by rw[<-HRR.out,decide_eq_false k1,decide_eq_true k2];rfl,S.out.step⟩
      ·have hB:((i:Int)==(q.length:Int) -1)=false:=by simp;omega
       go_wp2_with fail
       go_ret;exact⟨by rw[<-HRR.out,decide_eq_false k1,decide_eq_false k2];rfl,S.out.step⟩
   ·have e2:i=q.length:=by omega
    subst e2;have h3:(q.length:Int)<(p.length:Int):=by omega
    go_wp2_with (go_at_call 178;refine(Q6k _ _ _).mono ?_;rintro e w' ⟨rfl,rfl⟩)
    go_ret;refine⟨?_,S.out.step⟩;have HR:=H.out;rw[List.drop_length,wcmp_nil,Q8p,length_drop]at HR;rw[<-HR];have hd:decide (p.length -q.length=0)=false:=by simp;omega
    rw[hd];simp[cmpI,h3];omega
  ·have e1:i=p.length:=by omega
   subst e1;go_wp2_with (go_at_call 178;refine(Q6k _ _ _).mono ?_;rintro e w' ⟨rfl,rfl⟩)
   go_ret;refine⟨?_,S.out.step⟩;have HR:=H.out;rw[List.drop_length,nil_wcmp,Q8p,length_drop]at HR;rw[<-HR];by_cases h2:p.length<q.length
   ·have hd:decide (q.length -p.length=0)=false:=by simp;omega
    rw[hd];simp[cmpI,h2]
   ·have hd:decide (q.length -p.length=0)=true:=by simp;omega
    rw[hd];have:¬((p.length:Int)<q.length):=by omega
    have h3:¬((q.length:Int)<p.length):=by omega
    simp[cmpI,this,h3]
end
section
def Q2f(w:World)(A:OA)(xs:List Value):Prop:=xs=[]\/∃b o,A=some ⟨b,o,none⟩/\∀(j:Nat) v,xs[j]?=some v->w.cell? ⟨b,o+j,none⟩=some v
variable{xs:List Value}{A:OA}{w W:World}
theorem Q2f.step{N:Nat->Prop}(h:Q2f w A xs)(st:Step N I J w W)(hn:∀b o,A=some ⟨b,o,none⟩->¬N b):Q2f W A xs:=by
 rcases h with e|⟨b,o,e,h⟩
 ·exact .inl e
 ·exact .inr ⟨b,o,e,fun j v hv=>st.cell (h j v hv) (hn b o e)⟩
theorem Q2f.step0(h:Q2f w A xs)(st:Step Nix I J w W):Q2f W A xs:=h.step st fun _ _ _ x=>x
theorem Q2f.flat(h:Q0u I A xs)(hi:I.In w):Q2f w A xs:=by
 rcases h with⟨_,e⟩|⟨b,o,e,h⟩
 ·exact .inl e
 ·exact .inr ⟨b,o,e,fun j v hv=>(h j v hv).at hi⟩
variable{size n i:Nat}
theorem Q2f.own{base:Nat}{e:TypeId}{c N:Nat}(h:w.ownsRow base e size (.slice A N c) n xs):Q2f w A xs:=by
 rcases h.2 with⟨e1,rfl⟩|⟨g,cap,cur,e1,_,hh,_,_,_,ht⟩
 ·left;exact List.length_eq_zero_iff.1 (by have:=h.1;simpa using this)
 ·injection e1 with e1 e2 e3;subst e1;refine .inr ⟨g,0,rfl,fun j v hv=>?_⟩;rw[Nat.zero_add,Q0e hh j];exact Z2e ht hv
theorem Q2f.reads(h:Q2f w A xs)(hl:xs.length=n*size)(hs:0<size):Q4n w w.heap.size size A n xs:=by
 refine⟨hl,fun hn=>?_⟩;have h0:0<xs.length:=by rw[hl];exact Nat.mul_pos hn hs
 rcases h with rfl|⟨b,o,rfl,k⟩
 ·simp at h0
 ·refine⟨_,rfl,World.block_lt_of_cell? w _ (k 0 _ (List.getElem?_eq_getElem h0)),fun j u hu=>?_⟩;have ha:(Addr.add ⟨b,o,none⟩ j)=⟨b,o+j,none⟩:=by unfold Addr.add;split<;>simp_all
  rw[ha];exact k j u hu
variable{v:Value}
theorem Q2f.get(h:Q2f w A xs)(hv:xs[i]?=some v):∃b o,A=some ⟨b,o,none⟩/\w.cell? ⟨b,o+i,none⟩=some v:=by
 rcases h with rfl|⟨b,o,e,k⟩
 ·simp at hv
 ·exact⟨b,o,e,k i v hv⟩
theorem Q5f{P:Program}{ops:Array Oper}{rest:List Oper}{o:Oper}{a:Act}{Q:EAW}{T:TypeId}{x:Operand}{b j:Nat}(hg:Region.wanted o (yielded ops a.tmps)=true)(ho:o.op=.load T x)(hx:a.eval x=.pointer (some ⟨b,j,none⟩))(hc:W.cell? ⟨b,j,none⟩=some v)(hu:(P.underlying T).map aggD=some false)
  (h:wpList P ops Q rest (a.put o.dst v) W):wpList P ops Q (o::rest) a W:=Q0l hg fun _ hK=>X0m ho hx hc hu (hK _ _ h)
theorem X4c(I:Gh)(p q:List PE)(pa qa:OA)(pc qc:Nat)(hp:Q0u I pa (p.flatMap Q0s))(hq:Q0u I qa (q.flatMap Q0s))(hpl:p.length<=2 ^ 30)(hql:q.length<=2 ^ 30)(w:World)(hi:I.In w):
  Calls prog 133 #[.slice pa p.length pc,.slice qa q.length qc] w (Got Nix I w (.bool (decide (p.take q.length=q)))):=by
 have HF:=Hd (And.intro hp hq);clear hp hq;refine Q0c (M:=Nix) hi ?_;intro W S;go_enter func133,ntmps133;by_cases hlen:p.length<q.length
 ·have h0:¬(p.take q.length=q):=fun e=>by have:=congrArg List.length e;rw[List.length_take]at this;omega
  go_wp2_with (first|refine wk ?_|refine Ws ?_;clear S;intro W S|refine wn ?_;clear S;(first|(fail_if_success revert b0);intro b0 W S|(fail_if_success revert b1);intro b1 W S|(fail_if_success revert b2);intro b2 W S|intro _ W S))
  exact e1a
 ·go_wp2_with (first|refine wk ?_|refine Ws ?_;clear S;intro W S|refine wn ?_;clear S;(first|(fail_if_success revert b0);intro b0 W S|(fail_if_success revert b1);intro b1 W S|(fail_if_success revert b2);intro b2 W S|intro _ W S))
  go_loopg [5,13] q.length (fun g s5 s13 wr=>∃i:Nat,s13=.int .i64 (i:Nat)/\i<=q.length/\g=q.length -i/\Hid (St Nix I I w wr [] [])/\Hid (p.take i=q.take i))
  case atStart=>exact⟨0,rfl,Nat.zero_le _,rfl,S,rfl⟩
  case round=>
   clear S;obtain⟨i,rfl,hib,hg,S,H⟩:=hrel;by_cases h2:i<q.length
   ·have h1:i<p.length:=by omega
    obtain⟨x,hx⟩:∃x,p[i]?=some x:=gx h1;obtain⟨y,hy⟩:∃y,q[i]?=some y:=gx h2;obtain⟨b1,o1,rfl,e1⟩:=Z3i HF.out.1 hx;obtain⟨b2,o2,rfl,e2⟩:=Z3i HF.out.2 hy;have HH:=Hd (And.intro hx hy);clear hx hy;have HE:=Hd (And.intro e1 e2);clear e1 e2;go_wp2_with (first|refine wk ?_|refine Ws ?_;clear S;intro W S|refine wn ?_;clear S;(first|(fail_if_success revert b0);intro b0 W S|(fail_if_success revert b1);intro b1 W S|(fail_if_success revert b2);intro b2 W S|intro _ W S))
    go_region_held3 (fun W=>(W.cell? ⟨b1,o1+i*11,none⟩=some (.int .i64 0)/\W.cell? ⟨b1,o1+i*11+1,none⟩=some (.string x)/\W.cell? ⟨b1,o1+i*11+2,none⟩=some (sn)/\W.cell? ⟨b1,o1+i*11+3,none⟩=some (sn)/\W.cell? ⟨b1,o1+i*11+4,none⟩=some (.int .i64 0)/\W.cell? ⟨b1,o1+i*11+5,none⟩=some (.int .i64 0)/\W.cell? ⟨b1,o1+i*11+6,none⟩=some (.float .f64 0)/\W.cell? ⟨b1,o1+i*11+7,none⟩=some (.string ⟨#[]⟩)/\W.cell? ⟨b1,o1+i*11+8,none⟩=some (sn)/\W.cell? ⟨b1,o1+i*11+9,none⟩=some (sn)/\W.cell? ⟨b1,o1+i*11+10,none⟩=some (.int .i64 0))/\(W.cell? ⟨b2,o2+i*11,none⟩=some (.int .i64 0)/\W.cell? ⟨b2,o2+i*11+1,none⟩=some (.string y)/\W.cell? ⟨b2,o2+i*11+2,none⟩=some (sn)/\W.cell? ⟨b2,o2+i*11+3,none⟩=some (sn)/\W.cell? ⟨b2,o2+i*11+4,none⟩=some (.int .i64 0)/\W.cell? ⟨b2,o2+i*11+5,none⟩=some (.int .i64 0)/\W.cell? ⟨b2,o2+i*11+6,none⟩=some (.float .f64 0)/\W.cell? ⟨b2,o2+i*11+7,none⟩=some (.string ⟨#[]⟩)/\W.cell? ⟨b2,o2+i*11+8,none⟩=some (sn)/\W.cell? ⟨b2,o2+i*11+9,none⟩=some (sn)/\W.cell? ⟨b2,o2+i*11+10,none⟩=some (.int .i64 0))) (first|exact⟨Z4c HE.out.1 S.out.inw,Z4c HE.out.2 S.out.inw⟩|exact⟨Z4c HE.out.1 S.out.drew.inw,Z4c HE.out.2 S.out.drew.inw⟩|go_keep) (first|(go_at_call 192;refine Q4a b0j ?_;clear S;intro S;refine got S (eqElems_x I _ _) ?_;clear S;intro W S));by_cases hxy:x=y
    ·rw[decide_eq_true hxy];go_wp2_with fail
     go_roundg (q.length -(i+1))
     case measure=>omega
     case rel=>
      refine⟨i+1,rfl,h2,rfl,S,?_⟩;show p.take (i+1)=q.take (i+1);rw[List.take_add_one,List.take_add_one,HH.out.1,HH.out.2,hxy,H.out]
    ·have h0:¬(p.take q.length=q):=fun e=>hxy (by
      have h3:(p.take q.length)[i]?=q[i]?:=by rw[e]
      rw[List.getElem?_take,if_pos h2,HH.out.1,HH.out.2]at h3;exact Option.some.inj h3)
     rw[decide_eq_false hxy];go_wp2_with fail
     exact e1a
   ·have e1:i=q.length:=by omega
    subst e1;go_wp2_with (first|refine wk ?_|refine Ws ?_;clear S;intro W S|refine wn ?_;clear S;(first|(fail_if_success revert b0);intro b0 W S|(fail_if_success revert b1);intro b1 W S|(fail_if_success revert b2);intro b2 W S|intro _ W S))
    go_ret;have H2:=H.out;rw[List.take_length]at H2;exact⟨by rw[decide_eq_true H2];rfl,S.out.step⟩
theorem X3k(I:Gh)(p q:List PE)(pa qa:OA)(pc qc:Nat)(hp:Q0u I pa (p.flatMap Q0s))(hq:Q0u I qa (q.flatMap Q0s))(hpl:p.length<=2 ^ 30)(hql:q.length<=2 ^ 30)(w:World)(hi:I.In w):
  Calls prog 79 #[.slice pa p.length pc,.slice qa q.length qc] w (Got Nix I w (.bool (decide (p=q)))):=by
 have HF:=Hd (And.intro hp hq);clear hp hq;refine Q0c (M:=Nix) hi ?_;intro W S;go_enter func79,ntmps79;by_cases hlen:p.length=q.length
 ·have hd:decide (p.take q.length=q)=decide (p=q):=by rw[<-hlen,List.take_length]
  have HL:=Hd hlen;have hi1:((p.length:Int)==(q.length:Int))=true:=by rw[hlen];exact beq_self_eq_true _
  clear hlen;go_wp2_with (first|refine wk ?_|refine Ws ?_;clear S;intro W S|refine wn ?_;clear S;intro _ W S)
  refine(X4c I p q pa qa pc qc HF.out.1 HF.out.2 hpl hql _ S.out.inw).mono ?_;rintro e W ⟨rfl,st⟩;replace S:=Hd (S.out.call st);rw[hd];go_wp2_with fail
  go_ret;exact⟨rfl,S.out.step⟩
 ·have h0:¬(p=q):=fun e=>hlen (by rw[e]);have hi1:((p.length:Int)==(q.length:Int))=false:=beq_eq_false_iff_ne.2 om;go_wp2_with (first|refine wk ?_|refine Ws ?_;clear S;intro W S|refine wn ?_;clear S;intro _ W S)
  exact e1a
def lowW:List (List PE)->List PE->Nat
 |[],_=>0
 |a::r,e=>if wlt a e=true then lowW r e+1 else 0
theorem X5c:∀(l:List (List PE)) (e:List PE),lowW l e<=l.length
 |[],_=>Nat.le_refl _
 |a::r,e=>by
  unfold lowW;have:=X5c r e;split<;>simp only[length_cons]<;>omega
variable{l:List (List PE)}
theorem WS.tail(h:WS (a::l)):WS l:=(List.pairwise_cons.1 h).2
theorem WS.lt(h:WS (a::l)){x:List PE}(hx:x∈l):wlt a x=true:=(List.pairwise_cons.1 h).1 x hx
theorem wins_at:∀{l:List (List PE)} (e:List PE),WS l->wins l e=if l[lowW l e]?=some e then l else l.take (lowW l e)++[e]++l.drop (lowW l e)
 |[],e,_=>by simp[wins,lowW]
 |a::r,e,h=>by
  unfold wins lowW;by_cases h1:wlt a e=true
  ·have ih:=wins_at e h.tail;simp only[h1,if_true,List.getElem?_cons_succ,List.take_succ_cons,List.drop_succ_cons];rw[ih];by_cases h2:r[lowW r e]?=some e
   ·simp[h2]
   ·simp[h2]
  ·simp only[h1,Bool.false_eq_true,if_false];by_cases h2:a=e
   ·simp[h2]
   ·simp[h2]
theorem X4w:∀{ss:List (List PE)} {key:List PE},WS ss->∀{j:Nat} {x:List PE},ss[j]?=some x->(j<lowW ss key<->wlt x key=true)
 |[],_,_,_,_,h=>by simp at h
 |a::r,key,hp,j,x,h=>by
  unfold lowW;cases j with
  |zero=>
   simp at h;subst h;by_cases h1:wlt a key=true<;>simp[h1]
  |succ j=>
   simp only[List.getElem?_cons_succ]at h;have ih:=X4w (key:=key) hp.tail h;have hax:=hp.lt (mem_of_getElem? h);by_cases h1:wlt a key=true
   ·simp only[h1,if_true,Nat.add_lt_add_iff_right];exact ih
   ·simp only[h1,Bool.false_eq_true,if_false,Nat.not_lt_zero,false_iff];intro hx;exact h1 (Q8d hax hx)
theorem lowW_uniq{ss:List (List PE)}{key:List PE}(hp:WS ss)(hi:i<=ss.length)(h1:∀j x,ss[j]?=some x->j<i->wlt x key=true)(h2:∀j x,ss[j]?=some x->i<=j->¬wlt x key=true):i=lowW ss key:=by
 have hle:=X5c ss key;rcases Nat.lt_trichotomy i (lowW ss key)with h|h|h
 ·have hg:ss[i]?=some ss[i]:=List.getElem?_eq_getElem om;exact absurd ((X4w hp hg).1 h) (h2 i _ hg (Nat.le_refl _))
 ·exact h
 ·have hg:ss[lowW ss key]?=some ss[lowW ss key]:=List.getElem?_eq_getElem om;exact absurd ((X4w hp hg).2 (h1 _ _ hg h)) (Nat.lt_irrefl _)
end
section
structure Kf where
 nb:Nat
 cb:Nat
 e:PE
 s:FS
 L:List Blk
 R:List Rw
def Kf.nd(k:Kf):List Value:=Q2p (k.nb,k.cb)
def Kf.p(k:Kf):PE×FS:=(k.e,k.s)
theorem Kf.nd_len(k:Kf):k.nd.length=5:=rfl
theorem kf_one{ks:List Kf}:∀u∈ks.flatMap Kf.nd,u.oneCell'=true:=by
 intro u hu;obtain⟨s,_,h⟩:=mem_flatMap.1 hu;simp[Kf.nd,Q2p]at h;rcases h with rfl|rfl|rfl<;>rfl
abbrev setBlk(b:Nat)(v1 v2:Value):Blk:=(b,[v1,v2],.t 316)
abbrev memRw(v:Value)(bs:List Nat):Rw:=⟨v,358,4,bs.length,bs.flatMap Q0i⟩
abbrev kidRw(v:Value)(ks:List Kf):Rw:=⟨v,423,5,ks.length,ks.flatMap Kf.nd⟩
inductive FO(J:Gh):Nat->FS->List Blk->List Rw->Prop
 | mk (b:Nat) (v1 v2:Value) (m:List PE) (bs:List Nat) (ks:List Kf) (c:List (PE×FS)) (L:List Blk) (R:List Rw)
   (hb:All2 (Nm J) bs m) (hn:∀k,k∈ks->Nm J k.nb k.e) (hk:∀k,k∈ks->FO J k.cb k.s k.L k.R) (hc:c=ks.map Kf.p)
   (hL:L.Perm (setBlk b v1 v2::ks.flatMap Kf.L)) (hR:R.Perm (memRw v1 bs::kidRw v2 ks::ks.flatMap Kf.R)):FO J b (.mk m c) L R
variable{b:Nat}{K:Gh}
theorem FO.mono{s:FS}{L:List Blk}{R:List Rw}(h:FO J b s L R)(l:J.le K):FO K b s L R:=by
 induction h with
 |mk b v1 v2 m bs ks c L R hb hn hk hc hL hR ih=>exact .mk b v1 v2 m bs ks c L R (hb.imp fun _ _ k=>k.mono l) (fun k hk=>(hn k hk).mono l) ih hc hL hR
theorem FO.new(J:Gh)(b:Nat):FO J b .nil [setBlk b (sn) (sn)] [memRw (sn) [],kidRw (sn) []]:=
 .mk b _ _ [] [] [] [] _ _ .nil (fun k hk=>absurd hk b0f) (fun k hk=>absurd hk b0f) rfl (List.Perm.refl _) (List.Perm.refl _)
theorem FO.fsi{s:FS}{L:List Blk}{R:List Rw}(h:FO J b s L R)(hle:J.le K)(hL:∀x∈L,Z8t K x)(hR:∀r∈R,∃(a:OA) (c:Nat),r.v=.slice a r.n c/\r.n<=c/\c<=maxLen/\Q0u K a r.xs):FSI K b s:=by
 induction h with
 |mk b v1 v2 m bs ks c L R hb hn hk hc pL pR ih=>
  subst hc;have hb0:K b=some (.cells #[v1,v2] 316 (0,0)):=hL (setBlk b v1 v2) (pL.mem_iff.2 (mem_cons_self ..));obtain⟨a1,c1,e1,g1,g2,f1⟩:=hR _ (pR.mem_iff.2 (mem_cons_self ..));obtain⟨a2,c2,e2,g3,g4,f2⟩:=hR _ (pR.mem_iff.2 (mem_cons_of_mem _ (mem_cons_self ..)));have ml:=hb.length;have hlen:(ks.map Kf.p).length=ks.length:=List.length_map ..;simp only[memRw,kidRw]at e1 e2 g1 g3 f1 f2;subst e1 e2;refine .mk b a1 c1 a2 c2 m bs (ks.map Kf.p) (ks.map fun k=>(k.nb,k.cb)) ⟨_,_,_,hb0,rfl,by rw[<-ml];rfl⟩ ⟨_,_,_,hb0,rfl,by rw[hlen];rfl⟩ ⟨by rw[<-ml];exact g1,g2⟩ ⟨by rw[hlen];exact g3,g4⟩ (hb.imp fun _ _ k=>k.mono hle) f1 b0f ?_ (fun i n p hx hy=>?_) (fun i n p hx hy=>?_)
  ·have e:(ks.map fun k=>(k.nb,k.cb)).flatMap Q2p=ks.flatMap Kf.nd:=by rw[List.flatMap_map];rfl
   rw[e];exact f2
  ·rw[List.getElem?_map]at hx hy;cases hq:ks[i]? with
   |none=>rw[hq]at hx;cases hx
   |some k=>
    rw[hq]at hx hy;cases hx;cases hy;exact(hn k (mem_of_getElem? hq)).mono hle
  ·rw[List.getElem?_map]at hx hy;cases hq:ks[i]? with
   |none=>rw[hq]at hx;cases hx
   |some k=>
    rw[hq]at hx hy;cases hx;cases hy;have hm:=mem_of_getElem? hq;exact ih k hm (fun x hx=>hL x (pL.mem_iff.2 (mem_cons_of_mem _ (mem_flatMap.2 ⟨k,hm,hx⟩)))) (fun r hr=>hR r (pR.mem_iff.2 (mem_cons_of_mem _ (mem_cons_of_mem _ (mem_flatMap.2 ⟨k,hm,hr⟩)))))
theorem FO.freeze{M:Nat->Prop}{I:Gh}{w W:World}{L0 L:List Blk}{R0 R:List Rw}{s:FS}(h:FO J b s L R)(S:St M I J w W (L++L0) (R++R0)):∃K,J.le K/\FSI K b s/\St M I K w W L0 R0:=by
 obtain⟨K,l,hL,hR,S'⟩:=S.freezeLR;exact⟨K,l,h.fsi l hL hR,S'⟩
def FS.cnt:FS->Nat
 |.mk m c=>m.length+cntC c
 where
 cntC:List (PE×FS)->Nat
  |[]=>0
  |(_,s)::r=>1+s.cnt+cntC r
theorem X7x:∀(l:List PE) (e:PE),(insL l e).length<=l.length+1
 |[],e=>by simp[insL]
 |a::r,e=>by
  unfold insL;have:=X7x r e;split
  ·simp only[length_cons];omega
  ·split<;>simp only[length_cons]<;>omega
theorem Q7i:∀{c:List (PE×FS)} {p:PE×FS},p∈c->1+p.2.cnt<=FS.cnt.cntC c
 |q::c,p,h=>by
  obtain⟨k,s⟩:=q;unfold FS.cnt.cntC;rcases mem_cons.1 h with rfl|h
  ·simp only;omega
  ·have:=Q7i h;omega
theorem Q7c:∀c:List (PE×FS),c.length<=FS.cnt.cntC c
 |[]=>Nat.zero_le _
 |(_,s)::r=>by unfold FS.cnt.cntC;have:=Q7c r;simp only[length_cons];omega
theorem X7c:∀(c:List (PE×FS)) (e:PE) (f:FS->FS) (n:Nat),(∀s,(s=.nil\/(e,s)∈c)->(f s).cnt<=s.cnt+n)->FS.cnt.cntC (setC c e f)<=FS.cnt.cntC c+n+1
 |[],e,f,n,h=>by
  have:=h .nil (.inl rfl);simp only[setC,FS.cnt.cntC,FS.nil,FS.cnt,length_nil]at this⊢;omega
 |(a,s)::r,e,f,n,h=>by
  have ih:=X7c r e f n fun u hu=>h u (hu.imp_right (mem_cons_of_mem _));unfold setC;split
  ·simp only[FS.cnt.cntC];omega
  ·split
   ·rename_i he
    have:=h s (.inr (by rw[<-he];exact mem_cons_self ..));simp only[FS.cnt.cntC];omega
   ·have:=h .nil (.inl rfl);simp only[FS.cnt.cntC,FS.nil,FS.cnt,length_nil]at this⊢;omega
theorem X6j:∀(p:List PE) (s:FS),(s.ins p).cnt<=s.cnt+p.length
 |[],.mk m c=>by unfold FS.ins;exact Nat.le_refl _
 |[e],.mk m c=>by have:=X7x m e;simp only[FS.ins,FS.cnt,length_cons,length_nil];omega
 |e::d::p,.mk m c=>by
  have:=X7c c e (fun s=>s.ins (d::p)) (d::p).length fun s _=>X6j (d::p) s;simp only[FS.ins,FS.cnt,length_cons]at this⊢;omega
theorem Z8l:∀(c:List (PE×FS)) (e:PE) (f:FS->FS),Inc (c.map (·.1))->setC c e f=setC c e fun _=>f ((kid c e).getD .nil)
 |[],e,f,_=>by simp[setC,kid]
 |(a,s)::r,e,f,h=>by
  have ht:Inc (r.map (·.1)):=by simp only[map_cons]at h;exact h.tail
  unfold setC;by_cases h1:plt a e=true
  ·have hne:¬a=e:=Z6x h1;simp only[h1,if_true];rw[Z8l r e f ht,Q1d,if_neg hne]
  ·simp only[h1,Bool.false_eq_true,if_false];by_cases h2:a=e
   ·subst h2;simp[Q1d]
   ·simp only[if_neg h2];have hlt:plt e a=true:=by
     rcases Q7o h2 with h|h
     ·exact absurd h h1
     ·exact h
    have hn:kid ((a,s)::r) e=none:=Q5i (show IncC ((a,s)::r)from h) hlt;rw[hn];rfl
theorem flat_perm{α β:Type}(f:α->List β){a b:List α}(h:a.Perm b):(a.flatMap f).Perm (b.flatMap f):=h.flatMap_right f
theorem FO.focus{v1 v2:Value}{m:List PE}{bs:List Nat}{ka kb:List Kf}{k:Kf}{L:List Blk}{R:List Rw}(hb:All2 (Nm J) bs m)(hn:∀q,q∈ka++k::kb->Nm J q.nb q.e)(hk:∀q,q∈ka++k::kb->FO J q.cb q.s q.L q.R)
  (hL:L.Perm (setBlk b v1 v2::(ka++k::kb).flatMap Kf.L))(hR:R.Perm (memRw v1 bs::kidRw v2 (ka++k::kb)::(ka++k::kb).flatMap Kf.R)):
  L.Perm (k.L++(setBlk b v1 v2::(ka++kb).flatMap Kf.L))/\R.Perm (k.R++(memRw v1 bs::kidRw v2 (ka++k::kb)::(ka++kb).flatMap Kf.R))/\
  ∀K s' L' R',J.le K->FO K k.cb s' L' R'->FO K b (.mk m (ka.map Kf.p++(k.e,s')::kb.map Kf.p)) (L'++(setBlk b v1 v2::(ka++kb).flatMap Kf.L)) (R'++(memRw v1 bs::kidRw v2 (ka++k::kb)::(ka++kb).flatMap Kf.R)):=by
 have pm:∀{β:Type} (f:Kf->List β) (q:Kf),((ka++q::kb).flatMap f).Perm (f q++(ka++kb).flatMap f):=fun f q=>by
  have:=flat_perm f (List.perm_middle (a:=q) (l₁:=ka) (l₂:=kb));rwa [List.flatMap_cons]at this
 have p1:∀{β:Type} (x:β) (A B:List β),(x::(A++B)).Perm (A++(x::B)):=fun x A B=>List.perm_middle.symm;refine⟨hL.trans (((pm Kf.L k).cons _).trans (p1 _ _ _)),hR.trans ((((pm Kf.R k).cons _).cons _).trans (((p1 _ _ _).cons _).trans (p1 _ _ _))),fun K s' L' R' hle h'=>?_⟩;refine .mk b v1 v2 m bs (ka++⟨k.nb,k.cb,k.e,s',L',R'⟩::kb) _ _ _ (hb.imp fun _ _ q=>q.mono hle) (fun q hq=>?_) (fun q hq=>?_) (by simp[Kf.p]) ?_ ?_
 ·rcases List.mem_append.1 hq with hq|hq
  ·exact(hn q (List.mem_append_left _ hq)).mono hle
  ·rcases mem_cons.1 hq with rfl|hq
   ·exact(hn k (List.mem_append_right _ (mem_cons_self ..))).mono hle
   ·exact(hn q (List.mem_append_right _ (mem_cons_of_mem _ hq))).mono hle
 ·rcases List.mem_append.1 hq with hq|hq
  ·exact(hk q (List.mem_append_left _ hq)).mono hle
  ·rcases mem_cons.1 hq with rfl|hq
   ·exact h'
   ·exact(hk q (List.mem_append_right _ (mem_cons_of_mem _ hq))).mono hle
 ·exact((p1 _ _ _).symm).trans ((pm Kf.L ⟨k.nb,k.cb,k.e,s',L',R'⟩).symm.cons _)
 ·have e:kidRw v2 (ka++k::kb)=kidRw v2 (ka++⟨k.nb,k.cb,k.e,s',L',R'⟩::kb):=by simp[kidRw,Kf.nd]
  rw[e];exact((p1 _ _ _).symm).trans (((p1 _ _ _).symm.cons _).trans (((pm Kf.R ⟨k.nb,k.cb,k.e,s',L',R'⟩).symm.cons _).cons _))
theorem Z7u:∀{ks:List Kf} (e:PE) (f:FS->FS),Inc (ks.map Kf.e)->∀(k:Kf),ks[lowP (ks.map Kf.e) e]?=some k->k.e=e->
  setC (ks.map Kf.p) e f=(ks.take (lowP (ks.map Kf.e) e)).map Kf.p++(e,f k.s)::(ks.drop (lowP (ks.map Kf.e) e+1)).map Kf.p
 |[],e,f,_,k,hk,_=>by simp at hk
 |a::r,e,f,h,k,hk,he=>by
  simp only[map_cons]at h hk⊢;unfold setC lowP at*;by_cases h1:plt a.e e=true
  ·simp only[h1,if_true,List.getElem?_cons_succ,List.take_succ_cons,List.drop_succ_cons]at hk⊢;have hp:plt a.p.1 e=true:=h1;have ih:=Z7u (ks:=r) e f h.tail k hk he;show(if plt a.p.1 e=true then _ else _)=_;rw[if_pos hp,ih];simp
  ·simp only[h1,Bool.false_eq_true,if_false,List.getElem?_cons_zero,Option.some.injEq]at hk⊢;subst hk;have hp:¬plt a.p.1 e=true:=h1;have hq:a.p.1=e:=he;show(if plt a.p.1 e=true then _ else if a.p.1=e then(a.p.1,f a.p.2)::_ else _)=_;rw[if_neg hp,if_pos hq];simp[Kf.p,he]
theorem Z8g:∀{ks:List Kf} (e:PE) (f:FS->FS),Inc (ks.map Kf.e)->(∀k:Kf,ks[lowP (ks.map Kf.e) e]?=some k->k.e≠e)->
  setC (ks.map Kf.p) e f=(ks.take (lowP (ks.map Kf.e) e)).map Kf.p++(e,f .nil)::(ks.drop (lowP (ks.map Kf.e) e)).map Kf.p
 |[],e,f,_,_=>by simp[setC,lowP]
 |a::r,e,f,h,hk=>by
  simp only[map_cons]at h hk⊢;unfold setC lowP at*;by_cases h1:plt a.e e=true
  ·simp only[h1,if_true,List.getElem?_cons_succ,List.take_succ_cons,List.drop_succ_cons]at hk⊢;have hp:plt a.p.1 e=true:=h1;have ih:=Z8g (ks:=r) e f h.tail hk;show(if plt a.p.1 e=true then _ else _)=_;rw[if_pos hp,ih];simp
  ·simp only[h1,Bool.false_eq_true,if_false,List.getElem?_cons_zero,Option.some.injEq]at hk⊢;have hp:¬plt a.p.1 e=true:=h1;have hq:¬a.p.1=e:=hk a rfl;show(if plt a.p.1 e=true then _ else if a.p.1=e then(a.p.1,f a.p.2)::_ else _)=_;rw[if_neg hp,if_neg hq];simp
end
end Go.Proofs.YtbmklgemmjgjfaaGreat
