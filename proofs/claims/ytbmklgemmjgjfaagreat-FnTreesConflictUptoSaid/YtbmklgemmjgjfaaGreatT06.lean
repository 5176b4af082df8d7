/- Part 6: Eqa, Eqc, EqL, EqM. -/
import Derived.Test.YtbmklgemmjgjfaaGreatT05
namespace Go.Proofs.YtbmklgemmjgjfaaGreat
open Go.RowKit Go.Maps Tryz
set_option linter.unusedVariables false
set_option linter.unusedSimpArgs false
set_option maxRecDepth 100000
set_option maxHeartbeats 8000000
section
theorem z20(w:World):(zeroValue 20).run prog w=.ok .nilIface w:=by kernel_rfl
def Z9l(ts:KT)(s:BA)(u:Tr):Bool:=match findK ts s with|some t=>eqT t u|none=>false
theorem Q2s{l:KT}{k:BA}{t:Tr}(h:(k,t)∈l):t.size<=Q0p l:=by
 induction l with
 |nil=>simp at h
 |cons a l ih=>
  obtain⟨x,a⟩:=a;rcases List.mem_cons.1 h with e|e
  ·cases e;simp[Q0p]
  ·have:=ih e;simp[Q0p];omega
theorem mapEq_clo(I:Gh)(n:Nat)(H:EqH I n)(al:Addr)(mb ab vvb vv vb r1:Nat)(vs:KV)(ts:KT)(s:BA)(y:Value)(u:Tr)(W:World)(hi:I.In W)
  (hs:Q0p ts<=n)(hm:I.map r1 vs)(hk:vs.map (·.1)=ts.map (·.1))(h:∀(i:Nat) v t,vs[i]?=some v->ts[i]?=some t->Q0r I v.2 t.2)(hy:Q0r I y u)(hss:s.size<=maxLen)
  (c1:W.cell? ⟨mb,0,none⟩=some (.map (some r1)))(c2:W.cell? ⟨ab,0,none⟩=some (.iface 340 (.pointer (some al))))(c3:W.cell? ⟨vvb,0,none⟩=some (pt vv))
  (x0:Value)(c4:W.heap[vv]?=some (.cells #[x0] 430 (0,0)))(c5:W.cell? ⟨vb,0,none⟩=some y)(n1:mb≠vv)(n2:ab≠vv)(n3:vvb≠vv)(n4:vb≠vv)(n5:I vv=none):
  Calls prog 518 ((L2t s vb).toArray++(L1o mb ab vvb).toArray) W
   fun e W'=>e=.returned (.bool (Z9l ts s u))/\Step (Eq vv) I I W W'/\∃x,W'.heap[vv]?=some (.cells #[x] 430 (0,0)):=by
 have hM:=hm.at hi;cases hf:findK vs s with
 |none=>
  have hft:findK ts s=none:=by
   have:=Z2w hk s;rw[hf]at this;cases e:findK ts s with
   |none=>rfl
   |some t=>rw[e]at this;cases this
  have hb:Z9l ts s u=false:=by unfold Z9l;rw[hft]
  rw[hb];have HF:=Hd hf;clear hf hft hb h hk hy H n1 n2 n3 n4 hs;go_enter func518,ntmps518;go_wp2_with (at_lookup;refine Q6l rfl _ _ 633 20 rfl underlying633 z20 r1 vs rfl hM s rfl hss ?_;rw[HF.out])
  go_ret;exact⟨rfl,(Step.refl hi),x0,c4⟩
 |some v=>
  obtain⟨i,t,g1,g2,g3⟩:=Q3p hk hf;have hv:=h i _ _ g1 g2;have hb:Z9l ts s u=eqT t u:=by unfold Z9l;rw[g3]
  rw[hb];have HF:=Hd hf;have hz:=Q2s (Q0o g3);clear hf hb h hk g1 g2 g3;go_enter func518,ntmps518;go_wp2_with (at_lookup;refine Q6l rfl _ _ 633 20 rfl underlying633 z20 r1 vs rfl hM s rfl hss ?_;rw[HF.out])
  go_region_with (first|go_at_call 167;refine(reuse_t vv x0 v _ hv.ak _ ?_).mono ?_;exact c4;rintro e w1 ⟨rfl,t1⟩;have d2:=t1.cell c2 n2;have d5:=t1.cell c5 n4;have d4:=Q0e t1.self 0;simp at d4|go_at_call 129;refine(H _ _ _ _ _ _ _ _ ?_ ?_ hv hy d4 d5).mono ?_;omega;exact t1.inw hi n5;rintro e w2 ⟨rfl,st2⟩)
  all_goals (go_wp2_with fail;go_ret;refine⟨rfl,(t1.step ((Step.refl hi).drew) n5 (fun _=>rfl)).trans0 st2,v,st2.heap t1.self (fun x=>x)⟩)
end
section

variable{w:World}
theorem cell1{b:Nat}{v:Value}{t:TypeId}(h:w.heap[b]?=some (.cells #[v] t (0,0))):w.cell? ⟨b,0,none⟩=some v:=by
 have:=Q0e h 0;simpa using this
theorem But2.step{a c:Nat}{M:Nat->Prop}{I J:Gh}{W W':World}(b:But2 a c W W')(h:Step M I J w W)(ha:w.heap.size<=a)(hc:w.heap.size<=c)(ja:J a=none)(jc:J c=none):Step M I J w W':=
 ⟨b.os.trans h.os,b.tape.trans h.tape,b.output.trans h.output,by rw[b.size];exact h.size,
  fun k hk hn=>(b.block k om om).trans (h.block k hk hn),h.le,h.old,
  fun k x e=>(b.block k (fun y=>by subst y;rw[ja]at e;cases e) (fun y=>by subst y;rw[jc]at e;cases e)).trans (h.inw k x e)⟩
theorem mapEq_it(I:Gh)(n:Nat)(H:EqH I n)(al:Addr)(r1 r2:Nat)(vs ws:KV)(ts us:KT)(w w0:World)(hi:I.In w)
  (hs:Q0p ts<=n)(hm:I.map r1 vs)(hk:vs.map (·.1)=ts.map (·.1))(h:∀(i:Nat) v t,vs[i]?=some v->ts[i]?=some t->Q0r I v.2 t.2)
  (hm2:I.map r2 ws)(hk2:ws.map (·.1)=us.map (·.1))(h2:∀(i:Nat) v t,ws[i]?=some v->us[i]?=some t->Q0r I v.2 t.2)
  (hl:ts.length=us.length)(mb ab vvb vv:Nat)(st:Step Nix I I w w0)
  (c1:w0.cell? ⟨mb,0,none⟩=some (.map (some r1)))(c2:w0.cell? ⟨ab,0,none⟩=some (.iface 340 (.pointer (some al))))(c3:w0.cell? ⟨vvb,0,none⟩=some (pt vv))
  (c4:w0.heap[vv]?=some (.cells #[.nilIface] 430 (0,0)))(n1:mb≠vv)(n2:ab≠vv)(n3:vvb≠vv)(n5:w.heap.size<=vv)(hal:0<al.block+1):
  Calls prog 513 #[.map (some r2),.iface 340 (.pointer (some al)),.func (.func 518) #[] (L1o mb ab vvb).toArray] w0 (Got Nix I w (.bool (eqM ts us))):=by
 have l1:=World.block_lt_of_cell? w0 _ c1;have l2:=World.block_lt_of_cell? w0 _ c2;have l3:=World.block_lt_of_cell? w0 _ c3;have l4:=Q1r c4;have hws:=st.size;simp only at l1 l2 l3;have hlk:=(eqM_look (hm.sorted.keys hk) (hm2.sorted.keys hk2) hl)
 have hri:=hm2.lt st.inw;refine(X1w 518 _ al r2 ws w0 (hm2.at st.inw) (hm2.lt st.inw) (Go.MuLone.run_callFunc_enter func518 kr rfl) ?_
  (fun left W=>Step Nix I I w W/\W.cell? ⟨mb,0,none⟩=some (.map (some r1))/\W.cell? ⟨ab,0,none⟩=some (.iface 340 (.pointer (some al)))/\W.cell? ⟨vvb,0,none⟩=some (pt vv)/\
   (∃x,W.heap[vv]?=some (.cells #[x] 430 (0,0)))/\∀s u,findK us s=some u->left s=false->Z9l ts s u=true)
  (fun W=>Step Nix I I w W/\eqM ts us=true) (fun W=>Step Nix I I w W/\eqM ts us=false) ?_ ?_ ?_ ?_).mono ?_
 ·intro s v hf;obtain⟨i,t,g1,g2,g3⟩:=Q3p hk2 hf;exact⟨_,(h2 i _ _ g1 g2).ak⟩
 ·intro W hB;refine⟨st.trans0 (Step.of_below hB st.inw),?_,?_,?_,⟨_,(hB.block _ l4).trans c4⟩,?_⟩
  ·exact(World.cell?_of_block (hB.block mb l1)).trans c1
  ·exact(World.cell?_of_block (hB.block ab l2)).trans c2
  ·exact(World.cell?_of_block (hB.block vvb l3)).trans c3
  ·intro s u hu hn;have:=Z2w hk2 s;rw[hu]at this;simp only[this]at hn;cases hn
 ·rintro left W W' ⟨q0,q1,q2,q3,⟨x,q4⟩,q5⟩ hb;refine⟨hb.step q0 om om (hi.none om) (hi.none om),?_,?_,?_,⟨x,(hb.block vv om om).trans q4⟩,q5⟩
  ·exact(World.cell?_of_block (hb.block mb om om)).trans q1
  ·exact(World.cell?_of_block (hb.block ab om om)).trans q2
  ·exact(World.cell?_of_block (hb.block vvb om om)).trans q3
 ·rintro left W ⟨q0,q1,q2,q3,q4,q5⟩ hn;refine⟨q0,hlk.2 fun k u hu=>?_⟩;have:=q5 k u hu (hn k);unfold Z9l at this;split at this
  ·exact⟨_,by assumption,this⟩
  ·cases this
 ·rintro left W s v ⟨q0,q1,q2,q3,⟨x,q4⟩,q5⟩ hss hls hf hv hlt;obtain⟨i,u,g1,g2,g3⟩:=Q3p hk2 hf;have hy:=h2 i _ _ g1 g2;have hcv:=Q0e hv 0;simp at hcv;refine(mapEq_clo I n H al mb ab vvb vv w0.heap.size r1 vs ts s v u W q0.inw hs hm hk h hy hss q1 q2 q3 x q4 hcv n1 n2 n3 om (hi.none n5)).mono ?_;rintro e W' ⟨rfl,sp,y,hy'⟩;have sp':Step Nix I I w W':=q0.trans sp fun b hb e=>absurd e om;refine⟨⟨sp.block _ om om,sp.block _ om om,sp.block _ (by have:=q0.size;omega) (by have:=hm2.lt hi;omega)⟩,?_⟩;cases hlb:Z9l ts s u with
  |true=>
   refine .inl ⟨rfl,sp',sp.cell q1 (fun e=>n1 e.symm),sp.cell q2 (fun e=>n2 e.symm),sp.cell q3 (fun e=>n3 e.symm),⟨y,hy'⟩,fun s' u' hu' hn=>?_⟩;by_cases hs':s'=s
   ·subst hs';rw[g3]at hu';cases hu';exact hlb
   ·exact q5 s' u' hu' (by simpa[hs']using hn)
  |false=>
   refine .inr ⟨rfl,sp',?_⟩;cases hq:eqM ts us with
   |false=>rfl
   |true=>
    obtain⟨t,ht,he⟩:=hlk.1 hq s u g3;unfold Z9l at hlb;rw[ht]at hlb;simp only at hlb;rw[he]at hlb;cases hlb
 ·rintro e W' (⟨rfl,q0,q1⟩|⟨rfl,q0,q1⟩)
  ·exact⟨by rw[q1],q0⟩
  ·exact⟨by rw[q1],q0⟩

theorem mapEq_x(I:Gh)(n:Nat)(H:EqH I n)(al:Addr)(r1 r2:Nat)(vs ws:KV)(ts us:KT)(w:World)(hi:I.In w)
  (hs:Q0p ts<=n)(hm:I.map r1 vs)(hk:vs.map (·.1)=ts.map (·.1))(h:∀(i:Nat) v t,vs[i]?=some v->ts[i]?=some t->Q0r I v.2 t.2)
  (hm2:I.map r2 ws)(hk2:ws.map (·.1)=us.map (·.1))(h2:∀(i:Nat) v t,ws[i]?=some v->us[i]?=some t->Q0r I v.2 t.2):
  Calls prog 508 #[.map (some r1),.iface 340 (.pointer (some al)),.iface 633 (.map (some r2))] w (Got Nix I w (.bool (eqM ts us))):=by
 have hM1:=hm.at hi;have hM2:=hm2.at hi;by_cases hne:ts.length=us.length
 ·have l1:vs.length=ts.length:=by have:=congrArg List.length hk;simpa using this
  have l2:ws.length=us.length:=by have:=congrArg List.length hk2;simpa using this
  by_cases h0:ts.length=0
  ·have e1:ts=[]:=List.length_eq_zero_iff.1 h0;have e2:us=[]:=List.length_eq_zero_iff.1 om;subst e1;subst e2;have e1:vs=[]:=List.length_eq_zero_iff.1 (by simpa using l1);have e2:ws=[]:=List.length_eq_zero_iff.1 (by simpa using l2);subst e1;subst e2;clear hk hk2 h h2 hne h0 H l1 l2 hs;go_enter_defers func508,ntmps508;go_wp2_with fail
   refine(Z4f _ [] _ (hm.at ((hi.alloc _).alloc _))).mono ?_;rintro e w' ⟨rfl,rfl⟩;go_wp2_with fail
   refine(Z4f _ [] _ (hm2.at ((hi.alloc _).alloc _))).mono ?_;rintro e w' ⟨rfl,rfl⟩;go_wp2_with fail
   exact⟨_,results_tmp rfl _ _ _,rfl,((Step.refl hi).alloc _).alloc _⟩
  ·have hb:((vs.length:Int) != ws.length)=false:=by simp;omega
   have hz:=Z8v (n:=vs.length) om;have HH0:=Hd H;have HK:=Hd (And.intro hk hk2);have HH:=Hd (And.intro h h2);have HL:=Hd (nd3 l1 l2 hne);clear hk hk2 h h2 hne h0 H l1 l2;go_enter_defers func508,ntmps508;go_wp2_with fail
   refine(Z4f _ vs _ (hm.at ((hi.alloc _).alloc _))).mono ?_;rintro e w' ⟨rfl,rfl⟩;go_wp2_with fail
   refine(Z4f _ ws _ (hm2.at ((hi.alloc _).alloc _))).mono ?_;rintro e w' ⟨rfl,rfl⟩;go_wp2_with fail
   refine(X5b _ _).mono ?_;rintro e w' ⟨rfl,rfl⟩;go_wp2_with fail
   refine wp_region_noPanic ?_;go_region_with fail;all_goals refine NoPanic.normal ?_
   all_goals go_wp2_with fail
   all_goals
    refine(mapEq_it I n HH0.out al r1 r2 vs ws ts us w _ hi hs hm HK.out.1 HH.out.1 hm2 HK.out.2 HH.out.2 HL.out.2.2 w.heap.size (w.heap.size+1) (w.heap.size+1+1+1) (w.heap.size+1+1) ?_ ?_ ?_ ?_ ?_ om om om om om).mono ?_
    ·exact e0g
    ·refine cell1 (t:=633) ?_;exact e0m
    ·refine cell1 (t:=254) ?_;exact e0m
    ·refine cell1 (t:=339) ?_;exact e0m
    ·exact e0m
    rintro e w' ⟨rfl,st⟩
    go_wp2_with fail
    exact Q0z _ _ ⟨_,results_tmp rfl _ _ _,rfl,st⟩
 ·have l1:vs.length=ts.length:=by have:=congrArg List.length hk;simpa using this
  have l2:ws.length=us.length:=by have:=congrArg List.length hk2;simpa using this
  have hb:((vs.length:Int) != ws.length)=true:=by simp;omega
  have he:=Hd (eqM_length hne);clear hk hk2 h h2 hne H l1 l2 hs;go_enter_defers func508,ntmps508;go_wp2_with fail
  refine(Z4f _ vs _ (hm.at ((hi.alloc _).alloc _))).mono ?_;rintro e w' ⟨rfl,rfl⟩;go_wp2_with fail
  refine(Z4f _ ws _ (hm2.at ((hi.alloc _).alloc _))).mono ?_;rintro e w' ⟨rfl,rfl⟩;go_wp2_with fail
  exact⟨_,results_tmp rfl _ _ _,by rw[he.out];rfl,((Step.refl hi).alloc _).alloc _⟩
theorem listAsEq_x(I:Gh)(n:Nat)(H:EqH I n)(al:Addr)(b1 o1 c1 b2 o2 c2:Nat)(vs1 vs2:List Value)(ts us:List Tr)(w:World)(hi:I.In w)(hs:Z1p ts<=n)
  (hl1:vs1.length=ts.length)(hn1:ts.length<=maxLen)(hc1:∀(i:Nat) v,vs1[i]?=some v->I.cell ⟨b1,o1+i,none⟩ v)(h1:∀(i:Nat) v t,vs1[i]?=some v->ts[i]?=some t->Q0r I v t)
  (hl2:vs2.length=us.length)(hn2:us.length<=maxLen)(hc2:∀(i:Nat) v,vs2[i]?=some v->I.cell ⟨b2,o2+i,none⟩ v)(h2:∀(i:Nat) v t,vs2[i]?=some v->us[i]?=some t->Q0r I v t):
  Calls prog 500 #[.slice (some ⟨b1,o1,none⟩) ts.length c1,.iface 340 (.pointer (some al)),.iface 632 (.slice (some ⟨b2,o2,none⟩) us.length c2)] w (Got Nix I w (.bool (eqL ts us))):=by
 have HH:=Hd H;have A1:=Hd (nd5 hs hl1 hn1 hc1 h1);have A2:=Hd (nd4 hl2 hn2 hc2 h2);clear H hs hl1 hn1 hc1 h1 hl2 hn2 hc2 h2;go_enter func500,ntmps500;go_wp2_with fail
 refine(listEq_any I n HH.out al w.heap.size b1 o1 c1 b2 o2 c2 vs1 vs2 ts us _ (hi.alloc _) A1.out.1 b0f A1.out.2.1 A1.out.2.2.1 A1.out.2.2.2.1 A1.out.2.2.2.2 A2.out.1 A2.out.2.1 A2.out.2.2.1 A2.out.2.2.2).mono ?_;rintro e w' ⟨rfl,st⟩;go_wp2_with fail
 go_ret;exact⟨rfl,((Step.refl hi).alloc _).trans0 st⟩
end
section
theorem eq_list(I:Gh)(n:Nat)(H0:EqH I n)(b1 o1 c1:Nat)(vs:List Value)(ts:List Tr)(hs:Z1p ts<=n)(hl:vs.length=ts.length)(hn:ts.length<=maxLen)
  (hv:∀(i:Nat) v,vs[i]?=some v->I.cell ⟨b1,o1+i,none⟩ v)(h:∀(i:Nat) v t,vs[i]?=some v->ts[i]?=some t->Q0r I v t)
  {y:Value}{u:Tr}(hy:Q0r I y u)(al:Addr)(b c:Nat)(w:World)(hi:I.In w)
  (hb:w.cell? ⟨b,0,none⟩=some (.iface 282 (.slice (some ⟨b1,o1,none⟩) ts.length c1)))(hc:w.cell? ⟨c,0,none⟩=some y)(hbl:b<w.heap.size)(hcl:c<w.heap.size):
  Calls prog 129 #[.iface 340 (.pointer (some al)),.iface 339 (pt b),.iface 339 (pt c)] w (Got Nix I w (.bool (eqT (.list ts) u))):=by
 have hx:=AK.list (some ⟨b1,o1,none⟩) ts.length c1;have hk:=hy.ak;have H:=Hd H0;clear H0;have HH:=Hd (nd5 hs hl hn hv h);clear hs hl hn hv h;cases hy
 case list b2 o2 c2 ws us hl2 hn2 hv2 h2=>
  have H2:=Hd (nd4 hl2 hn2 hv2 h2);clear hl2 hn2 hv2 h2;simp only[Tr.kind]at hk;go_enter_defers func129,ntmps129;go_wp2_with (first|refine qa ?_|go_at_call 376;(with_reducible refine(Z1l _ _ _ _ _).mono ?_);rintro e w' ⟨rfl,rfl⟩)
  refine(listAsEq_x I n H.out al b1 o1 c1 b2 o2 c2 vs ws ts us _ ?_ HH.out.1 HH.out.2.1 HH.out.2.2.1 HH.out.2.2.2.1 HH.out.2.2.2.2 H2.out.1 H2.out.2.1 H2.out.2.2.1 H2.out.2.2.2).mono ?_
  ·repeat(first|exact hi|refine Gh.In.alloc ?_ _)
  rintro e w' ⟨rfl,st⟩;have st0:=fun(h:Step Nix I I w _)=>h.trans0 st;go_wp2_with fail
  exact e1p
 all_goals
  simp only[Tr.kind]at hk
  go_enter_defers func129,ntmps129
  go_wp2_with (refine qa ?_)
  refine⟨_,results_tmp rfl _ _ _,?_,?_⟩
  ·simp[eqT,feq,i2f,seq]
  ·exact e0g
end
section
theorem eq_map(I:Gh)(n:Nat)(H0:EqH I n)(r1:Nat)(vs:KV)(ts:KT)(hs:Q0p ts<=n)(hm:I.map r1 vs)(hkk:vs.map (·.1)=ts.map (·.1))
  (h:∀(i:Nat) v t,vs[i]?=some v->ts[i]?=some t->Q0r I v.2 t.2)
  {y:Value}{u:Tr}(hy:Q0r I y u)(al:Addr)(b c:Nat)(w:World)(hi:I.In w)
  (hb:w.cell? ⟨b,0,none⟩=some (.iface 283 (.map (some r1))))(hc:w.cell? ⟨c,0,none⟩=some y)(hbl:b<w.heap.size)(hcl:c<w.heap.size):
  Calls prog 129 #[.iface 340 (.pointer (some al)),.iface 339 (pt b),.iface 339 (pt c)] w (Got Nix I w (.bool (eqT (.map ts) u))):=by
 have hx:=AK.map (some r1);have hk:=hy.ak;have H:=Hd H0;clear H0;have HH:=Hd (nd4 hs hm hkk h);clear hs hm hkk h;cases hy
 case map r2 ws us hm2 hkk2 h2=>
  have H2:=Hd (nd3 hm2 hkk2 h2);clear hm2 hkk2 h2;simp only[Tr.kind]at hk;go_enter_defers func129,ntmps129;go_wp2_with (first|refine qa ?_|go_at_call 378;(with_reducible refine(Q9g _ _ _).mono ?_);rintro e w' ⟨rfl,rfl⟩)
  refine(mapEq_x I n H.out al r1 r2 vs ws ts us _ ?_ HH.out.1 HH.out.2.1 HH.out.2.2.1 HH.out.2.2.2 H2.out.1 H2.out.2.1 H2.out.2.2).mono ?_
  ·repeat(first|exact hi|refine Gh.In.alloc ?_ _)
  rintro e w' ⟨rfl,st⟩;have st0:=fun(h:Step Nix I I w _)=>h.trans0 st;go_wp2_with fail
  exact e1p
 all_goals
  simp only[Tr.kind]at hk
  go_enter_defers func129,ntmps129
  go_wp2_with (refine qa ?_)
  refine⟨_,results_tmp rfl _ _ _,?_,?_⟩
  ·simp[eqT,feq,i2f,seq]
  ·exact e0g
end
end Go.Proofs.YtbmklgemmjgjfaaGreat
