/- Part 46: Pru, Tse, Sml, Smc. -/
import Derived.Test.YtbmklgemmjgjfaaGreatT44
import Derived.Test.YtbmklgemmjgjfaaGreatT45
namespace Go.Proofs.YtbmklgemmjgjfaaGreat
open Go.RowKit Go.Maps Tryz
set_option linter.unusedVariables false
set_option linter.unusedSimpArgs false
set_option maxRecDepth 100000
set_option maxHeartbeats 16000000
variable{J:Gh}
section
theorem prune0_x{a b c d:Value}(w:World)(hi:J.In w):Calls prog 128 #[a,b,c,d,.nilIface] w (Got Nix J w (.tuple #[b,.nilIface])):=by
 have HI:=Hd hi;clear hi;go_enter func128,ntmps128;go_wp2_with fail
 refine bT ?_;exact⟨rfl,Step.refl HI.out⟩
theorem build_s{ub sb nb rs rm:Nat}{ret:Bool}:Ac 96 #[pt ub] J [(ub,[.iface 118 (Q2z sb nb rs rm),.map none,.map none,.bool ret],.t 202)] [] fun x K L' R'=>K=J/\R'=[]/\∃u,x=pt u/\L'=[(u,[.iface 118 (Q2z sb nb rs rm),.map none,.map none,.bool ret],.t 222),(ub,[.iface 118 (Q2z sb nb rs rm),.map none,.map none,.bool ret],.t 202)]:=by
 intro M I w W S;go_enter func96,ntmps96;go_wp2_with fail
 refine Rg S [(ub,[.iface 118 (Q2z sb nb rs rm),.map none,.map none,.bool ret],.t 202)] [] [] [0,1,2,3,4,5,6,7,8,9,10,11,12,13,14,15,16] 2 fun W S=>?_;refine Zw [18] 0 17 ?_;intro KK hKK;refine Z6g (sub:=[.iface 118 (Q2z sb nb rs rm),.map none,.map none,.bool ret]) S rfl rfl ?_;clear S;intro u W S;refine Et ?_;go_wp2_with fail
 refine bT ?_;exact ap gR ⟨rfl,rfl,u,rfl,rfl⟩ kp
end
section
variable{tb ct sb nb rs rm mn mc:Nat}{ma:OA}{x0:V6}
theorem toUp_s(hv:Z5n J sb nb rs rm):Ac 50 #[.agg (L0d tb ct nmDe x0 ma mn mc).toArray,Q2z sb nb rs rm] J [] []<|N0 fun u K=>∃ub,u=pt ub/\UpIs K ub sb nb rs rm false:=by
 intro M I w W S;have HV:=Hd hv;clear hv;unfold Q2z;go_enter func50,ntmps50;go_wp2_with (first|refine wk ?_|refine wB ?_;clear S;intro y W S|refine wA ?_;clear S;intro ub W S|refine Ws ?_;clear S;intro W S)
 have hcall:=build_s (J:=J) (ub:=ub) (sb:=sb) (nb:=nb) (rs:=rs) (rm:=rm) (ret:=false);unfold Q2z at hcall;refine Q0a S hcall ?_;clear hcall S;rintro r5 K5 L5 R5 W' hle5 ⟨hKJ,rfl,u,rfl,rfl⟩ S;have hJK:=hKJ.symm;subst hJK;replace S:=sa S;go_wp2_with fail
 obtain⟨K2,hle2,hk2,S4⟩:=S.out.freeze;refine bT ?_;exact ap (L:=[]) hle2 ⟨rfl,rfl,u,rfl,hk2,HV.out.mono hle2⟩ (show St _ _ _ _ _ _ _ from keep (Hd S4))
theorem live_s{X:IV}{v:BA}(hv:Z5n J sb nb rs rm)(hx:VIs J x0 X)(hb:X.bulk<2 ^ 30)(hz:X.tr.size<2 ^ 30)(hvz:v.size<=maxLen):
  Ac 47 #[Q2z sb nb rs rm,.agg (L0d tb ct nmDe x0 ma mn mc).toArray,.string v] J [] []<|N0 fun u K=>∃t,u=.tuple #[pt t,.bool true]/\TvIs K t sb nb X.tr:=by
 intro M I w W S;have HV:=Hd (nd5 hv hx hb hz hvz);clear hv hx hb hz hvz;unfold Q2z;go_enter func47,ntmps47;go_wp2_with (first|refine wk ?_|refine wn ?_;clear S;(first|(fail_if_success revert y1);intro y1 W S|intro y2 W S))
 have hcall:=plain_s HV.out.2.1 HV.out.2.2.1;simp only[V6.agg]at hcall;refine Q0a S hcall ?_;clear hcall S;rintro r5 K5 L5 R5 W' hle5 ⟨rfl,rfl,ha⟩ S;have HA:=Hd (And.intro ha hle5);clear ha;replace S:=sa S;go_wp2_with (refine wk ?_)
 refine Rg S [(y2,L0d tb ct nmDe x0 ma mn mc,.t 41),(y1,L1t sb nb rs rm,.t 118)] [] [] [0,1,2,3,5,6,7] 6 fun W S=>?_;refine Zw [] 5 4 ?_;intro KK hKK;go_simp;refine got S (Z9e (sb:=sb) (nb:=nb) (rs:=rs) (rm:=rm) (v:=v) (HV.out.1.mono HA.out.2) HV.out.2.2.2.2) ?_;clear S;intro W S;unfold Q0v;refine Yw [9,10,11,12] 0 8 ?_;intro KK hKK;go_simp;have hcall:=Z4z (J:=K5) (nb:=nb) (sb:=sb) (ded:=true) HA.out.1 HV.out.2.2.2.1 (HV.out.1.s.mono HA.out.2) (HV.out.1.n.mono HA.out.2);simp only[Q0v]at hcall;refine Q0a S hcall ?_;clear hcall S;rintro r6 K6 L6 R6 W' hle6 ⟨rfl,rfl,t6,rfl,htv⟩ S;have hle56:=gT HA.out.2 hle6;have HQ:=Hd (And.intro hle56 htv);clear htv;replace S:=sa S;refine Et ?_;go_wp2_with fail
 refine bT ?_;exact ap (L:=[]) HQ.out.1 ⟨rfl,rfl,t6,rfl,HQ.out.2⟩ kp
end
section
theorem fits2_t(I:Gh)(b o c:Nat)(ss:List BA)(w:World)(hi:I.In w)(hm:ss.length<=2147483647)(hs:∀(i:Nat) s,ss[i]?=some s->I.cell ⟨b,o+i,none⟩ (.string s))(hz:∀s∈ss,ByteArray.size s<=2147483647):
  Calls prog 39 #[.slice (some ⟨b,o,none⟩) ss.length c] w (Got Nix I w (.bool true)):=by
 have HS:=Hd (And.intro hs hz);clear hs hz;go_enter func39,ntmps39;go_wp2_with fail
 go_loopg [10] ss.length (fun g y wr=>∃i:Nat,y=.int .i64 (i:Nat)/\i<=ss.length/\g=ss.length -i/\Step Nix I I w wr)
 case atStart=>exact⟨0,rfl,Nat.zero_le _,rfl,Step.refl hi⟩
 case round=>
  obtain⟨i,rfl,hil,hg,st⟩:=hrel;by_cases hlt:i<ss.length
  ·obtain⟨x,hx⟩:∃x,ss[i]?=some x:=gx hlt;have cx:=(HS.out.1 _ x hx).at st.inw;have hxz:=HS.out.2 x (List.mem_of_getElem? hx);have ST:=Hd (And.intro st hg);clear hx st hg;go_wp2_with fail
   go_roundg (ss.length -(i+1))
   case measure=>have:=ST.out.2;omega
   case rel=>exact⟨i+1,rfl,by omega,rfl,ST.out.1⟩
  ·have ST:=Hd st;clear hg st;go_wp2_with fail
   go_ret;exact⟨rfl,ST.out⟩
theorem fits2_0(I:Gh)(a:OA)(c:Nat)(w:World)(hi:I.In w):
  Calls prog 39 #[.slice a 0 c] w (Got Nix I w (.bool true)):=by
 go_enter func39,ntmps39;go_wp2_with fail
 go_rounds 1;go_wp2_with fail
 go_ret;exact⟨rfl,Step.refl hi⟩
theorem fits5_t(I:Gh)(k n:Int)(f:Nat)(s:BA)(a1:OA)(n1 c1:Nat)(a2:OA)(n2 c2:Nat)(w:World)(hi:I.In w)(hs:s.size<=2147483647)(hn:n2<=2147483647)
  (H:∀w,I.In w->Calls prog 39 #[.slice a1 n1 c1] w (Got Nix I w (.bool true))):
  Calls prog 7 #[.agg (L0e k n f s a1 n1 c1 a2 n2 c2).toArray] w (Got Nix I w (.bool true)):=by
 go_enter func7,ntmps7;go_wp2_with fail
 refine(H _ (hi.alloc _)).mono ?_;rintro e w' ⟨rfl,st⟩;have p:=Q0e (st.heap (Q1b rfl) (fun x=>x):w'.heap[w.heap.size]?=some (.cells (L0e k n f s a1 n1 c1 a2 n2 c2).toArray 35 (0,0)));have p5:=p 5;simp at p5;have ST:=Hd (((Step.refl (M:=Nix) hi).alloc _).trans0 st);clear p st H;go_wp2_with fail
 go_ret;exact⟨rfl,ST.out⟩
theorem fits5_x{I:Gh}{v:V6}{x:IV}(hv:VIs I v x)(hx:x.bulk<2 ^ 30)(w:World)(hi:I.In w):Calls prog 7 #[v.agg] w (Got Nix I w (.bool true)):=by
 obtain⟨k,n,f,s,ks,l⟩:=x;obtain⟨a1,c1,a2,c2,vs,rfl,hs,hk,hks,h1,hn,h2,ha⟩:=hv.inv;unfold IV.bulk at hx;have h3:=Z2r l;have h4:=Z9t ks;refine fits5_t I k n f s a1 ks.length c1 a2 l.length c2 w hi om om fun w hi=>?_;rcases h1 with⟨_,e⟩|⟨b,o,rfl,h1⟩
 ·have:ks=[]:=e;subst this;exact fits2_0 I a1 c1 w hi
 ·refine fits2_t I b o c1 ks w hi om h1 fun s hs=>?_;have:∀ks:List BA,s∈ks->s.size<=(ks.map fun k=>1+k.size).sum:=fun ks h=>by
   induction ks with
   |nil=>cases h
   |cons a ks ih=>
    rcases List.mem_cons.1 h with e|e
    ·subst e;simp;omega
    ·have:=ih e;simp;omega
  have:=this ks hs;omega
theorem emptyMap_x(I:Gh)(w:World)(hi:I.In w):Calls prog 20 #[] w fun e w'=>∃v:V6,e=.returned v.agg/\Step Nix I I w w'/\VIs I v (Tr.map []).iv:=by
 go_enter func20,ntmps20;have q:=heap_alloc_new w (.cells L0c.toArray 35);have RH:=Hd (setRow_heap _ w.heap.size _ L1q.toArray 35 (0,0) q);go_wp2_with (refine wpList_store_row rf 35 _ _ rf w.heap.size L1q.toArray rf rf 35 _ q sz35 rfl (one6 rfl rfl rfl rfl rfl rfl) ?_)
 refine bT ?_;refine⟨⟨6,0,0,⟨#[]⟩,none,0,0,none,0,0⟩,rfl,((Step.refl hi).alloc _).setRow (hi.none (Nat.le_refl _)) (fun hb=>absurd hb om) _,?_⟩;exact e1e
end
section
def Q5y{α:Type}:List α->List Bool->List α
 |z::zs,u::us=>if u then Q5y zs us else z::Q5y zs us
 |_,_=>[]
theorem Z7h{α:Type}:∀zs:List α,Q5y zs (List.replicate zs.length false)=zs
 |[]=>rfl
 |z::zs=>by rw[List.length_cons,List.replicate_succ];simp[Q5y,Z7h zs]
theorem Z8i{α:Type}:∀{zs:List α} {us:List Bool} {j:Nat} {d:α},zs[j]?=some d->us[j]?=some false->(Q5y zs us).Perm (d::Q5y zs (us.set j true))
 |z::zs,u::us,0,d,h1,h2=>by simp at h1 h2;subst h1 h2;simp[Q5y]
 |z::zs,u::us,j+1,d,h1,h2=>by
  have ih:=Z8i (zs:=zs) (us:=us) (j:=j) (d:=d) b1g b1d;cases u
  ·simp only[Q5y,List.set_cons_succ];exact(ih.cons z).trans (List.Perm.swap d z _)
  ·simpa[Q5y]using ih
 |[],_,_,_,h1,_=>by simp at h1
 |z::zs,[],_,_,_,h2=>by simp at h2
theorem Z2y{α:Type}:∀{zs:List α} {us:List Bool} {d:α},d∈Q5y zs us->∃j:Nat,zs[j]?=some d/\us[j]?=some false
 |z::zs,u::us,d,h=>by
  cases u
  ·simp only[Q5y,if_false,Bool.false_eq_true]at h;rcases List.mem_cons.1 h with rfl|h
   ·exact⟨0,rfl,rfl⟩
   ·obtain⟨j,h1,h2⟩:=Z2y h;exact⟨j+1,by simpa using h1,by simpa using h2⟩
  ·simp only[Q5y,if_true]at h;obtain⟨j,h1,h2⟩:=Z2y h;exact⟨j+1,by simpa using h1,by simpa using h2⟩
 |[],_,_,h=>by simp[Q5y]at h
 |z::zs,[],_,h=>by simp[Q5y]at h
theorem made_bools(m:Nat):(madeCells (Value.bool false).cells (m*1)).toList=(List.replicate m false).map Value.bool:=by
 simp[madeCells,Value.cells,Nat.mod_one];rw[List.map_const',List.length_range]
theorem z1j{P:Prop}(h:P:=by
 go_roundg (j0+1 -(j+1))
 case measure=>have:=HN.out.1;omega
 case rel=>exact⟨j+1,_,by simp,by have:=HJ0.out;have:=HN.out.1;omega,rfl,Hd (Lib.front S [(c,L2h kv qa pc.length qc,.t 95)] [⟨.slice (some (ad g 0)) zs.length zs.length,4,1,zs.length,ub.map Value.bool⟩]).out⟩):P:=h
theorem z1k{P:Prop}(h:P:=by
 go_wp2_with (first|refine X9l (sub:=(L2h ku da d.length dc)) rf rfl rfl rfl HD.out S.out.inw ?_|refine wk ?_|refine Q5f rf rfl rfl (Q8r (S.out.rows _ (List.mem_cons_self ..)).1 HU.out.1) kr ?_|refine wn ?_;clear S;intro q W S|refine Ws ?_;clear S;intro W S)
 exact z1j):P:=h
theorem sameCf_s{J:Gh}{ua ub:Value}{ys zs:List (BA×List PE)}(ha:Z3l J ua ys)(hb:Z3l J ub zs)(hp:ys.Perm zs)(hl:ys.length<2 ^ 30)(hz:∀y∈zs,y.2.length<=2 ^ 30):Ac 36 #[ua,ub] J [] [] fun r K L' R'=>K=J/\L'=[]/\R'=[]/\r=.bool true:=by
 intro M I w W S;obtain⟨A,ca,vs,rfl,_,_,h1,h2⟩:=ha;obtain⟨B,cb,us,rfl,_,_,h3,h4⟩:=hb;have hyz:=hp.length_eq;have HT:=Hd (nd6 h1 h2 h3 h4 hp (And.intro hl hz));have hzl:zs.length<2 ^ 30:=by omega
 rw[hyz];clear h1 h2 h3 h4 hp hl hz;have HYZ:=Hd hyz;clear hyz;go_enter func36,ntmps36;go_wp2_with (refine wl_full (t:=178) (e:=4) (m:=zs.length) S rf rf underlying178 in4 rf rf om b0q ?_;clear S;intro g W S)
 rw[made_bools]at S;go_loopg [21] zs.length (fun m s21 wr=>∃(i:Nat) (T:List Blk) (ub:List Bool),s21=.int .i64 (i:Nat)/\i<=zs.length/\m=zs.length -i/\Hid (St M I J w wr T [⟨.slice (some (ad g 0)) zs.length zs.length,4,1,zs.length,ub.map Value.bool⟩])/\Hid (ub.length=zs.length/\(Q5y zs ub).Perm (ys.drop i)))
 case atStart=>exact⟨0,_,_,rfl,Nat.zero_le _,rfl,S,Hd ⟨by simp,by rw[Z7h];exact HT.out.2.2.2.2.1.symm⟩⟩
 case round=>
  clear S;obtain⟨i,T,ub,rfl,hi1,hg,S,HW⟩:=hrel;by_cases hlt:i<zs.length
  ·obtain⟨⟨kc,pc⟩,hy⟩:∃x,ys[i]?=some x:=gx (by rw[HYZ.out];exact hlt);obtain⟨⟨kv,pv⟩,hv⟩:∃x,vs[i]?=some x:=gx (by rw[HT.out.2.1.length,HYZ.out];exact hlt);obtain⟨hk,qa,qc,hpv,_,_,hq⟩:=HT.out.2.1.get hv hy;dsimp only at hk hpv hq;subst hk hpv;obtain⟨b1,o1,rfl,hX0⟩:=cf_at HT.out.1 hv;have HC:Hid (∀(j:Nat) u,((L2h kv qa pc.length qc):List Value)[j]?=some u->J.cell (ad b1 (o1+i*2+j)) u):=Hd hX0;have hdr:ys.drop i=(kv,pc)::ys.drop (i+1):=Q1h hy;have HY:=Hd (nd3 hdr hq (show pc.length<=2 ^ 30 from HT.out.2.2.2.2.2.2 _ (HT.out.2.2.2.2.1.mem_iff.1 (List.mem_of_getElem? hy))));obtain⟨j0,hj1,hj2⟩:=Z2y (HW.out.2.mem_iff.2 (by rw[hdr];exact List.mem_cons_self ..):(kv,pc)∈Q5y zs ub);have HJ:=Hd (And.intro hj1 hj2);have hj0:j0<zs.length:=(List.getElem?_eq_some_iff.1 hj1).1;have HI:=Hd (And.intro hlt hi1);clear hy hv hq hX0 hdr hj1 hj2 hi1;go_wp2_with (first|refine X9l (sub:=(L2h kv qa pc.length qc)) rf rfl rfl rfl HC.out S.out.inw ?_|refine wk ?_|refine wn ?_;clear S;intro c W S|refine Ws ?_;clear S;intro W S)
   go_loopg [27] (j0+1) (fun m s27 wr=>∃(j:Nat) (T2:List Blk),s27=.int .i64 (j:Nat)/\j<=j0/\m=j0+1 -j/\Hid (St M I J w wr ((c,L2h kv qa pc.length qc,.t 95)::T2) [⟨.slice (some (ad g 0)) zs.length zs.length,4,1,zs.length,ub.map Value.bool⟩]))
   case atStart=>exact⟨0,_,rfl,Nat.zero_le _,rfl,S⟩
   case round=>
    clear S;obtain⟨j,T2,rfl,hjj,hg2,S⟩:=hrel;have hjn:j<zs.length:=by omega
    obtain⟨⟨kd,d⟩,hz⟩:∃x,zs[j]?=some x:=gx hjn;obtain⟨⟨ku,pu⟩,hu⟩:∃x,us[j]?=some x:=gx (by rw[HT.out.2.2.2.1.length];exact hjn);obtain⟨hk,da,dc,hpu,_,_,hqd⟩:=HT.out.2.2.2.1.get hu hz;dsimp only at hk hpu hqd;subst hk hpu;obtain⟨b2,o2,rfl,hY0⟩:=cf_at HT.out.2.2.1 hu;have HD:Hid (∀(i:Nat) u,((L2h ku da d.length dc):List Value)[i]?=some u->J.cell (ad b2 (o2+j*2+i)) u):=Hd hY0;obtain⟨bu,hbu⟩:∃x,ub[j]?=some x:=gx (by rw[HW.out.1];exact hjn);have HU:=Hd (nd3 (show(ub.map Value.bool)[j]?=some (.bool bu) by rw[List.getElem?_map,hbu];rfl) hbu hz);have HQ:=Hd (And.intro hqd (HT.out.2.2.2.2.2.2 _ (List.mem_of_getElem? hz)));have HN:=Hd (And.intro hjj hjn);have hN:j+1<2 ^ 32:=by omega
    have hN2:i+1<2 ^ 32:=by have:=HI.out.1;omega
    have hlt2:(j:Int)<(zs.length:Int):=by omega
    clear hz hu hqd hY0 hbu hjj;have hq79:=X3k J pc d qa da qc dc HY.out.2.1 HQ.out.1 HY.out.2.2 HQ.out.2;cases bu with
    |true=>
     have HJ0:Hid (j≠j0):=Hd (by rintro rfl;have:=HJ.out.2;rw[HU.out.2.1]at this;cases this);exact z1k
    |false=>
     by_cases hkk:kv=ku
     ·have hq:(kv.toList==ku.toList)=true:=by have:=Q6p kv ku;unfold seq at this;rw[this,hkk];simp
      by_cases hpp:pc=d
      ·have hdd:decide (pc=d)=true:=by simp[hpp]
       have HE:=Hd (And.intro hkk hpp);clear hkk hpp;go_wp2_with (first|refine X9l (sub:=(L2h ku da d.length dc)) rf rfl rfl rfl HD.out S.out.inw ?_|refine wk ?_|refine Q5f rf rfl rfl (Q8r (S.out.rows _ (List.mem_cons_self ..)).1 HU.out.1) kr ?_|refine wn ?_;clear S;intro q W S|refine Ws ?_;clear S;intro W S|go_at_call 79;refine got S (hq79) ?_;clear S;intro W S|refine Z6h (v:=.bool true) (j:=j) S rf rfl rfl rfl rfl kr HN.out.2 ?_;clear S;intro W S)
       go_roundg (zs.length -(i+1))
       case measure=>have:=HI.out.1;omega
       case rel=>
        refine⟨i+1,_,ub.set j true,by simp,by have:=HI.out.1;omega,rfl,(by rw[List.map_set];exact S),Hd ⟨by rw[List.length_set];exact HW.out.1,?_⟩⟩;have h1:=(Z8i HU.out.2.2 HU.out.2.1).symm.trans HW.out.2;rw[HY.out.1,HE.out.1,HE.out.2]at h1;exact h1.cons_inv
      ·have hdd:decide (pc=d)=false:=by simp[hpp]
       have HJ0:Hid (j≠j0):=Hd (by rintro rfl;have:=HJ.out.1;rw[HU.out.2.2]at this;cases this;exact hpp rfl);clear hkk hpp;go_wp2_with (first|refine X9l (sub:=(L2h ku da d.length dc)) rf rfl rfl rfl HD.out S.out.inw ?_|refine wk ?_|refine Q5f rf rfl rfl (Q8r (S.out.rows _ (List.mem_cons_self ..)).1 HU.out.1) kr ?_|refine wn ?_;clear S;intro q W S|refine Ws ?_;clear S;intro W S|go_at_call 79;refine got S (hq79) ?_;clear S;intro W S)
       exact z1j
     ·have hq:(kv.toList==ku.toList)=false:=by have:=Q6p kv ku;unfold seq at this;rw[this];simp[hkk]
      have HJ0:Hid (j≠j0):=Hd (by rintro rfl;have:=HJ.out.1;rw[HU.out.2.2]at this;cases this;exact hkk rfl);clear hkk;exact z1k
  ·have hi2:i=zs.length:=by omega
   subst hi2;go_wp2_with fail
   exact e0i
end
end Go.Proofs.YtbmklgemmjgjfaaGreat
