/- Part 20: Vls, Vli, Vda, Vwk, Vtv, Vat, Scq. -/
import Derived.Laws.MakeOwn
import Derived.Test.YtbmklgemmjgjfaaGreatT19
namespace Go.Proofs.YtbmklgemmjgjfaaGreat
open List (append_assoc append_nil cons_append nil_append)
open Go.RowKit Go.Maps Tryz
set_option linter.unusedVariables false
set_option linter.unusedSimpArgs false
set_option maxRecDepth 100000
set_option maxHeartbeats 4000000
variable{J:Gh}{vb nb sb:Nat}
section
section
variable{P:Program}{ops:Array Oper}{rest:List Oper}{Q:EAW}{o:Oper}{a:Act}{M:Nat->Prop}{I J:Gh}{w W:World}{L:List Blk}{R:List Rw}{x:Operand}{t e:TypeId}{z:Value}{size bytes c:Nat}
theorem wl_mk0(S:Hid (St M I J w W L R))(hg:o.guard=none)(ho:o.op=.makeSlice t (.const (.int .i64 0)) x)(hx:a.eval x=.int .i64 (c:Int))(ht:P.underlying t=some (.slice e))(hi:Inf P e z size bytes)(hb:bytes*c<=281474976710656)(h63:c<=maxLen)
  (h:∀g W',Hid (St M I J w W' L R)->wpList P ops Q rest (a.put o.dst (.slice (some (ad g 0)) 0 c)) W'):wpList P ops Q (o::rest) a W:=by
 obtain⟨i,g1,g2,g3,g4⟩:=hi.parts;subst g4;have h63':(c:Int)<=9223372036854775807:=by
  have h:=h63;simp[maxLen]at h;omega
 have hb':(i.bytes:Int)*(c:Int)<=281474976710656:=by
  have h:((i.bytes*c:Nat):Int)<=281474976710656:=by omega
  rwa [Int.natCast_mul]at h
 have hr:=run_make (P:=P) W t e i z ht g1 g2 .i64 .i64 0 c (Int.le_refl _) om hb' h63';simp only[Int.toNat_zero,Int.toNat_natCast]at hr;refine Q0l (Q0b hg _) fun _ hK=>?_;have e0:a.eval (.const (.int .i64 0))=.int .i64 0:=rfl;unfold Oper.wp execOp;simp only[ho,e0,hx,Sem.run_bind,hr,Result.andThen_ok];exact hK _ _ (h _ _ (Hd (S.out.allocO _)))
end
variable{c k:Nat}
theorem mkset_s(hc:c<2 ^ 32):Ac 400 #[.int .i64 (c:Int)] J [] [] fun u K L' R'=>K=J/\L'=[]/\R'=[]/\∃g,u=.agg #[.slice (some (ad g 0)) 0 c]:=by
 intro M I w W S;go_enter func400,ntmps400;go_wp2_with (first|refine wn ?_;clear S;intro y W S|refine wl_mk0 S rfl rfl rfl underlying308 Q4v om b0q ?_;clear S;intro g W S|refine Ws ?_;clear S;intro W S)
 refine bT ?_;exact ap gR ⟨rfl,rfl,rfl,g,rfl⟩ (keep S)
theorem alloc_s(al:Addr):Ac 166 #[.pointer (some al)] J [] [] fun u K L' R'=>K=J/\R'=[]/\∃vb,u=pt vb/\L'=[(vb,[.nilIface],.t 430)]:=by
 intro M I w W S;refine(X5b _ W).mono ?_;rintro e W' ⟨rfl,rfl⟩;exact ap gR ⟨rfl,rfl,_,rfl,rfl⟩ (S.out.alloc _ rfl [.nilIface] 430)
variable{v:Value}
theorem reuse_s{vb:Nat}{u:Value}(hk:AK v k):Ac 167 #[pt vb,v] J [(vb,[u],.t 430)] [] fun r K L' R'=>K=J/\R'=[]/\r=.iface 339 (pt vb)/\L'=[(vb,[v],.t 430)]:=by
 intro M I w W S;cases hk;all_goals
  go_enter func167,ntmps167
  go_wp2_with (refine Ws ?_;clear S;intro W S)
  go_ret
  exact ap gR ⟨rfl,rfl,rfl,rfl⟩ S.out
theorem at_s{b o i n al:Nat}(hk:AK v k)(hcell:J.cell (ad b (o+i)) v)(hi:i<n)(hin:((i:Int)<(n:Int))=True):Ac 498 #[.slice (some (ad b o)) n c,.iface 340 (pt al),.int .i64 (i:Int)] J [] [] fun u K L' R'=>K=J/\R'=[]/\∃vb,u=Q3q vb/\L'=[(vb,[v],.t 430)]:=by
 unfold Q3q;intro M I w W S;have hk:=Hd hk;go_enter func498,ntmps498;go_wp2_with fail
 refine Rg S [] [] [] [0,2,3,4,5] 3 fun W S=>?_;refine tk32 ?_;refine Wr [] 2 1 fun KK hKK=>?_;go_simp;refine Q0a S (alloc_s (ad al 0)) ?_;rintro r K L' R' W' hle ⟨rfl,rfl,vb,rfl,rfl⟩ S2;clear S;have S:=S2;clear S2;replace S:=sa S;refine Yw [7] 0 6 ?_;intro KK hKK;go_simp;refine Q0a S (reuse_s (vb:=vb) (u:=.nilIface) hk.out) ?_;rintro r K L' R' W' hle ⟨rfl,rfl,rfl,rfl⟩ S2;clear S;have S:=S2;clear S2;replace S:=sa S;refine Hk ?_;refine tk32 ?_;refine En ?_;go_wp2_with fail
 go_ret;exact ap gR ⟨rfl,rfl,vb,rfl,rfl⟩ (keep S)
end
section
def FreeD(ds:List Deferred):Prop:=∀x∈ds,∃(al:Addr) (v:Value),x={target:=.fn (.method "Free") #[],args:=#[.iface 340 (.pointer (some al)),v]}
inductive LInv(M:Nat->Prop)(I J:Gh)(w:World)(b lp vb sb nb al:Nat)(d:Bool)(sp:OA)(N m c lb o g y7:Nat)(VB:List Blk):Nat->AW
 | mk {k i q8 n':Nat} {sp':OA} {PB':List Blk} {R':List Rw} {ds:List Deferred} {w':World} {u9 u10 u11 u12 u16 u17 u18 u19 u20 u21 u22 u23 u24 u25 u26 u27 u28 u29 u30 u31 u32 u33 u34 u35 u36 u37 u38 u39 u40 u41 u42 u43 u44 u45 u46 u47 u48 u49 u50 u51 u52 u53 u54 u55 u56 u57 u58 u59 u60 u61 u62 u63 u64 u65 u66 u67 u68 u69 u70 u71 u72 u73 u74 u75 u76 u77 u78 u79 u80 u81 u82 u83 u84 u85 u86 u87 u88 u89 u90 u91 u92 u93 u94:Value} (h:Hid (k=m -i/\n'<=N/\Q3b sp sp'/\Pool 479 696 475 11 n' sp' PB' R'/\FreeD ds)) (hi:i<=m) (S:Hid (St M I J w w' ((q8,[.int .i64 (i:Int)],.t 3)::(b,L0m vb sb nb d sp' al,.t 479)::(PB'++VB)) R')):
   LInv M I J w b lp vb sb nb al d sp N m c lb o g y7 VB k ⟨#[pt b,pt lp,.iface 632 (.slice (some (ad lb o)) m c),undef,undef,undef,sn,pt y7,pt q8,u9,u10,u11,u12,.iface 632 (.slice (some (ad lb o)) m c),.int .i64 (m:Int),.agg #[.slice (some (ad g 0)) 0 m],u16,u17,u18,u19,u20,u21,u22,u23,u24,u25,u26,u27,u28,u29,u30,u31,u32,u33,u34,u35,u36,u37,u38,u39,u40,u41,u42,u43,u44,u45,u46,u47,u48,u49,u50,u51,u52,u53,u54,u55,u56,u57,u58,u59,u60,u61,u62,u63,u64,u65,u66,u67,u68,u69,u70,u71,u72,u73,u74,u75,u76,u77,u78,u79,u80,u81,u82,u83,u84,u85,u86,u87,u88,u89,u90,u91,u92,u93,u94],ds⟩ w'

theorem Z6s{fn:Func}{tmps:Array Value}{R:Ending->World->Prop}{w:World}:∀{ds:List Deferred},FreeD ds->Leaves prog fn tmps R [] .returning w->Leaves prog fn tmps R ds .returning w
 |[],_,h=>h
 |x::ds,hd,h=>by
  obtain⟨al,v,rfl⟩:=hd x (List.mem_cons_self ..);exact Q0z al v (Z6s (fun y hy=>hd y (List.mem_cons_of_mem _ hy)) h)
theorem vlitems_s{J:Gh}{s0 N n b lp vb sb nb nb2 al lb o m c:Nat}{d:Bool}{sp:OA}{PB VB:List Blk}{R:List Rw}{vs:List Value}{ts:List Tr}(IH:VAll J s0)(hl:vs.length=ts.length)(hm:m=ts.length)(hmx:m<2 ^ 30)(hc:∀(i:Nat) v,vs[i]?=some v->J.cell (ad lb (o+i)) v)(h:∀(i:Nat) v t,vs[i]?=some v->ts[i]?=some t->Q0r J v t)
  (hN:1+Z1p ts<=N)(hs0:Z1p ts<=s0)(hs:Q2c J sb)(hnm:Nm J nb2 nmAt)(hnN:n<=N/\N<2 ^ 30)
  (hlp:J lp=some (.cells (L1n nb2 Q1p).toArray 332 (0,0)))(hp:Pool 479 696 475 11 n sp PB R):
  Ac 480 #[pt b,pt lp,.iface 632 (.slice (some (ad lb o)) m c)] J ((b,vc vb sb nb al d sp,.t 479)::(PB++VB)) R (X2m J b vb sb nb al d N sp VB):=by
 intro M I w W S;have HV:=Hd (nd6 IH hl hm hc h (nd6 hN hs0 hs hnm hnN (And.intro hlp hp)));clear IH hl hm hc h hN hs0 hs hnm hnN hlp hp;simp only[vc]at S;go_enter_defers func480,ntmps480;go_wp2_with (first|go_at_call 501;refine(Z3t _ _ _ _).mono ?_;rintro e w' ⟨rfl,rfl⟩|go_at_call 400;refine Q0a S (mkset_s om) ?_;rintro r K L' R' W' hle ⟨hKJ,rfl,rfl,g,rfl⟩ S2;(have hJK:=hKJ.symm;subst hJK);clear S;have S:=S2;clear S2;simp only[cons_append,nil_append,append_nil,append_assoc]at S|refine wk ?_|refine Ws ?_;clear S;intro W S|refine wn ?_;clear S;(first|(fail_if_success revert y7);intro y7 W S|intro _ W S))
 try refine yp ?_
 refine wp_loop_ghost_k (LInv M I J w b lp vb sb nb al d sp N m c lb o g y7 VB) m ?_ ?_
 ·exact .mk (i:=0) (Hd ⟨rfl,HV.out.2.2.2.2.2.2.2.2.2.1.1,.same,HV.out.2.2.2.2.2.2.2.2.2.2.2,fun _ h=>(by cases h)⟩) (Nat.zero_le _) (Hd (keep S))
 ·clear S;intro gk a0 W hinv JJ KR hJ hK;cases hinv;rename_i i q8 n' sp' PB' R' ds u9 u10 u11 u12 u16 u17 u18 u19 u20 u21 u22 u23 u24 u25 u26 u27 u28 u29 u30 u31 u32 u33 u34 u35 u36 u37 u38 u39 u40 u41 u42 u43 u44 u45 u46 u47 u48 u49 u50 u51 u52 u53 u54 u55 u56 u57 u58 u59 u60 u61 u62 u63 u64 u65 u66 u67 u68 u69 u70 u71 u72 u73 u74 u75 u76 u77 u78 u79 u80 u81 u82 u83 u84 u85 u86 u87 u88 u89 u90 u91 u92 u93 u94 HI hi S
  rcases Nat.lt_or_ge i m with hilt|hige
  ·have hin:((i:Int)<(m:Int))=True:=eq_true om;have hw1:IntKind.i64.wrap ((i:Int)+1)=(i:Int)+1:=by rw[IntKind.wrap_i64];omega
   have hrel:J.cell (ad lp 6) (.string Q1p):=⟨_,_,_,HV.out.2.2.2.2.2.2.2.2.2.2.1,rfl,rfl⟩
   have hF:∀(i:Nat) u,((L1b nb2):List Value)[i]?=some u->J.cell (ad lp (0+i)) u:=fun i u hu=>by
    refine⟨_,_,_,HV.out.2.2.2.2.2.2.2.2.2.2.1,rfl,?_⟩;match i,hu with
    |0,h|1,h|2,h|3,h|4,h|5,h=>simpa using h
    |i+6,h=>simp at h
   obtain⟨v,hv⟩:∃v,vs[i]?=some v:=gx (by have:=HV.out.2.1;have:=HV.out.2.2.1;omega);obtain⟨tt,htt⟩:∃v,ts[i]?=some v:=gx (by have:=HV.out.2.2.1;omega);have hcell:=HV.out.2.2.2.1 i v hv;have hany:=HV.out.2.2.2.2.1 i v tt hv htt;have hak:=Hd hany.ak;have hsz:=Z1j htt;have HT:=Hd (And.intro hany hsz);clear hany hsz hv htt;unfold Q1p at hrel;go_wp2_with fail
   refine Rg S [(q8,[.int .i64 (i:Int)],.t 3)] [] [] [0,1] 2 fun W S=>?_;refine Zw [3] 0 2 ?_;intro KK hKK;go_simp;refine(Z3t _ _ _ _).mono ?_;rintro e W2 ⟨rfl,rfl⟩;refine Et ?_;go_wp2_with fail
   refine Rg S [(q8,[.int .i64 (i:Int)],.t 3),(b,L0m vb sb nb d sp' al,.t 479)] [] [] [0,1,2,3,4,5,6,7] 2 fun W S=>?_;refine Zw [9] 0 8 ?_;intro KK hKK;go_simp;refine Q0a S (at_s hak.out hcell hilt hin) ?_;rintro r K2 L' R2 W' hle ⟨hKJ,rfl,vb2,rfl,rfl⟩ S2;have hJK:=hKJ.symm;subst hJK;unfold Q3q;clear S;have S:=S2;clear S2;simp only[vc,cons_append,nil_append,append_nil,append_assoc]at S;refine Et ?_;go_wp2_with (first|refine wk ?_|refine X9l (sub:=(L1b nb2)) rf rfl rfl rfl hF S.out.inw ?_|refine Ws ?_;clear S;intro W S|refine wn ?_;clear S;(first|(fail_if_success revert z1);intro z1 W S|intro z2 W S))
   have hb1:=HI.out.2.1;have hb2:=HV.out.2.2.2.2.2.2.2.2.2.1.2;have hb3:=HT.out.2;have hb4:=HV.out.2.2.2.2.2.1;have hb5:=HV.out.2.2.2.2.2.2.1;have HB:=Hd (nd5 hb1 hb2 hb3 hb4 hb5);clear hb1 hb2 hb3 hb4 hb5;refine Q0a S (vprep_s (b:=b) (vb:=vb) (sb:=sb) (nb:=nb) (al:=al) (d:=d) (nb2:=nb2) HI.out.2.2.2.1 b2i) ?_;rintro r K2 L1 R1 W' hle ⟨hKJ,b2,P,PB1,rfl,hq1,hq2,rfl⟩ S2;have hJK:=hKJ.symm;subst hJK;have HQ:=Hd (And.intro hq1 hq2);clear S hq1 hq2;have S:=S2;clear S2;simp only[vc,cons_append,nil_append,append_nil,append_assoc]at S;go_wp2_with (first|refine wk ?_|refine X9l (sub:=(L1b nb2)) rf rfl rfl rfl hF S.out.inw ?_|refine Ws ?_;clear S;intro W S|refine wn ?_;clear S;(first|(fail_if_success revert z1);intro z1 W S|intro z2 W S))
   have hcall:=HV.out.1 _ _ HT.out.1 (N -1) b2i b2i b2 vb2 sb nb2 al d false (n' -1) (some (ad P 0)) PB1 [(vb2,[v],.t 430)] R1 .nilFunc HV.out.2.2.2.2.2.2.2.1 HV.out.2.2.2.2.2.2.2.2.1 (.inr ⟨430,by simp⟩) HQ.out.2 b2i;simp only[vc]at hcall;refine Q0a S hcall ?_;clear hcall;rintro r K2 L' R2 W' hle ⟨hKJ,rfl,n2,sp2,PB2,hn2,hsp2,hp2,rfl⟩ S2;have hJK:=hKJ.symm;subst hJK;obtain rfl:sp2=some (ad P 0):=by cases hsp2;rfl
   have HP:=Hd (And.intro hn2 hp2);clear S hn2 hsp2 hp2;have S:=S2;clear S2;simp only[vc,cons_append,nil_append,append_nil,append_assoc]at S;go_wp2_with (first|refine Q0l (Q0b rfl _) fun _ hK9=>Q4b rfl rfl rfl underlying373 Z0q (hK9 _ _ ?_)|refine wk ?_|refine X9l (sub:=(L1b nb2)) rf rfl rfl rfl hF S.out.inw ?_|refine Ws ?_;clear S;intro W S|refine wn ?_;clear S;(first|(fail_if_success revert z1);intro z1 W S|intro z2 W S))
   refine Q0a S (vfin_s (b:=b) (b2:=b2) (c2:=(L1d vb2 sb nb2 d P al)) (vb:=vb) (sb:=sb) (nb:=nb) (al:=al) (d:=d) HP.out.2 rfl (by have:=HB.out;have:=HP.out.1;omega)) ?_;rintro r K2 L3 R3 W' hle ⟨hKJ,PB3,hp3,rfl⟩ S2;have hJK:=hKJ.symm;subst hJK;have HF:=Hd hp3;clear S hp3;have S:=S2;clear S2;simp only[vc,cons_append,nil_append,append_nil,append_assoc]at S;go_wp2_with (first|refine wk ?_|refine X9l (sub:=(L1b nb2)) rf rfl rfl rfl hF S.out.inw ?_|refine Ws ?_;clear S;intro W S|refine wn ?_;clear S;(first|(fail_if_success revert z1);intro z1 W S|intro z2 W S))
   refine Handed.intro (m -(i+1)) (by have:=HI.out.1;omega) ?_;refine hJ _ _ _ ?_;try refine yp ?_
   exact LInv.mk (i:=i+1) (Hd ⟨rfl,(by have:=HB.out;have:=HP.out.1;omega),HI.out.2.2.1.trans HQ.out.1,HF.out,fun x hx=>(List.mem_cons.1 hx).elim (fun e=>⟨_,_,e⟩) (HI.out.2.2.2.2 x)⟩) hilt (Hd (show St _ _ _ _ _ ((z2,[.int .i64 ((i:Int)+1)],.t 3)::(b,L1d vb sb nb d P al,.t 479)::(PB3++VB)) R3 from keep S))
  ·obtain rfl:i=m:=by omega
   go_wp2_with fail
   refine Rg S [(q8,[.int .i64 (i:Int)],.t 3)] [] [] [0,1] 2 fun W S=>?_;refine Zw [3] 0 2 ?_;intro KK hKK;go_simp;refine(Z3t _ _ _ _).mono ?_;rintro e W2 ⟨rfl,rfl⟩;refine Et ?_;go_wp2_with fail
   exact Z6s HI.out.2.2.2.2 ⟨_,results_tmp rfl _ _ _,ap gR ⟨rfl,rfl,n',sp',PB',HI.out.2.1,HI.out.2.2.1,HI.out.2.2.2.1,rfl⟩ (show St _ _ _ _ _ ((b,L0m vb sb nb d sp' al,.t 479)::(PB'++VB)) R' from keep S)⟩
end
section
theorem vlist_s{J:Gh}{s0 N n b lp vb sb nb nb2 al:Nat}{d:Bool}{sp:OA}{PB VB:List Blk}{R:List Rw}{a:Value}{t:Tr}(IH:VAll J s0)(ht:Q0r J a t)(hkd:t.kind=5)(hN:t.size<=N)(hs0:t.size<=s0+1)(hv:Q2n J VB vb a)(hs:Q2c J sb)(hnm:Nm J nb2 nmAt)(hnN:n<=N/\N<2 ^ 30)
  (hlp:J lp=some (.cells (L1n nb2 Q1p).toArray 332 (0,0)))(hp:Pool 479 696 475 11 n sp PB R):
  Ac 477 #[pt b,pt lp] J ((b,vc vb sb nb al d sp,.t 479)::(PB++VB)) R (X2m J b vb sb nb al d N sp VB):=by
 intro M I w W S;cases ht with
 |list lb o c vs ts hl hn hc h=>
  have hlen:ts.length<=Z1p ts:=by
   clear hl hn hc h hN hs0 hkd hv;induction ts with
   |nil=>exact Nat.le_refl _
   |cons x l ih=>have:=Q1l x;simp only[List.length_cons,Z1p];omega
  have hcall:=vlitems_s (b:=b) (vb:=vb) (nb:=nb) (al:=al) (d:=d) (sp:=sp) (VB:=VB) (o:=o) (c:=c) (m:=ts.length) IH hl rfl b2c hc h b2c (by simp only[Tr.size]at hs0;omega) hs hnm hnN hlp hp;have HV:=Hd (And.intro hv hcall);clear IH hkd hN hs0 hv hs hnm hnN hlp hp hl hn hc h hcall hlen;simp only[vc]at S HV;go_enter_defers func477,ntmps477;go_wp2_with fail
  refine Rg S [(b,L0m vb sb nb d sp al,.t 479)] [] [] [0,1,2,3,4,5,6,7] 6 fun W S=>?_;refine Zw [9,10,11,12,13] 0 8 ?_;intro KK hKK;go_simp;refine(Q8m _ S.out.inw (HV.out.1.at gR S)).mono ?_;rintro e W ⟨rfl,st⟩;replace S:=Hd (S.out.call st);clear st;refine Et ?_;go_wp2_with (refine wk ?_)
  refine Q0a S HV.out.2 ?_;rintro r2 K L' R2 W' hle ⟨rfl,rfl,n2,sp2,PB2,hn2,hsp2,hp2,rfl⟩ S2;have HP:=Hd (nd3 hn2 hsp2 hp2);clear S hn2 hsp2 hp2;have S:=S2;clear S2;simp only[vc,cons_append,nil_append,append_nil,append_assoc]at S;go_wp2_with fail
  exact e0y
 |null|bool|int|flt|str|map=>cases hkd
theorem vall(J:Gh):∀s,VAll J s:=by
 intro s;induction s with
 |zero=>
  intro a t ht N hN hs;have:=Q1l t;omega
 |succ s IH=>
  intro a t ht N hN hs b vb sb nb al d ded n sp PB VB R f hsch hnm hv hp hnN;refine validate_s ht.ak hsch hnm (hv.sub fun x hx=>List.mem_cons_of_mem _ (List.mem_append_right _ hx)) fun sc l m hat=>?_;obtain⟨h1,⟨n1,h2,h3⟩,⟨n2,h4,h5⟩⟩:=hat;by_cases h0:t.kind=0\/t.kind=6
  ·have e1:Q1y t.kind 479 477 478=478:=by rcases h0 with h|h<;>rw[h]<;>rfl
   have e2:Q1y t.kind sc l m=m:=by rcases h0 with h|h<;>rw[h]<;>rfl
   rw[e1,e2];exact vmap_s IH ht h0 hN hs hv hsch h4 hnN h5 hp
  ·by_cases h6:t.kind=5
   ·rw[h6];exact vlist_s IH ht h6 hN hs hv hsch h2 hnN h3 hp
   ·have e:Q1y t.kind 479 477 478=479/\Q1y t.kind sc l m=sc:=by
     cases ht with
     |null=>exact absurd (.inl rfl) h0
     |map=>exact absurd (.inr rfl) h0
     |list=>exact absurd rfl h6
     |bool|int|flt|str=>exact⟨rfl,rfl⟩
    rw[e.1,e.2];exact vscalar_s ht.ak ⟨h6,fun e=>h0 (.inr e)⟩ h1 (hv.sub fun x hx=>List.mem_cons_of_mem _ (List.mem_append_right _ hx)) hp hnN.1
end
section
def Q9e(vb nb sb:Nat):Value:=.agg #[.iface 339 (pt vb),pt nb,pn,pn,pn,pn,.bool false,pt sb]
theorem walker_s:Ac 246 #[Q9e vb nb sb] J [] [] fun u K L' R'=>K=J/\R'=[]/\∃b al,u=pt b/\L'=[(b,vc vb sb nb al false none,.t 479)]:=by
 unfold Q9e;intro M I w W S;go_enter func246,ntmps246;go_wp2_with (first|go_at_call 113;refine(Q0g (Q7s _) S.out.inw).mono ?_;rintro e W' ⟨rfl,st⟩;(obtain⟨al,hal⟩:∃al,al=W.heap.size:=⟨_,rfl⟩);rw[<-hal];clear hal;replace S:=Hd (S.out.call st);clear st|refine wk ?_|refine Ws ?_;clear S;intro W S|refine wn ?_;clear S;(first|(fail_if_success revert y);intro y W S|intro b W S))
 go_ret;exact ap gR ⟨rfl,rfl,b,al,rfl,rfl⟩ (show St _ _ _ _ _ [(b,[.iface 339 (pt vb),pt sb,pt nb,pn,pn,pn,pn,.bool false,.bool false,pn,.iface 340 (pt al)],.t 479)] []from keep S)
theorem finished_d{M:Nat->Prop}{I:Gh}{w W:World}{b al:Nat}{d:Bool}{sp:OA}{L:List Blk}{R:List Rw}{u:FrameMode}(S:Hid (St M I J w W ((b,vc vb sb nb al d sp,.t 479)::L) R)):
  CallsD prog 247 #[pt b] u W fun e u' W'=>u'=u/\e=.returned (.tuple #[])/\∃cs,Hid (St M I J w W' ((b,cs,.t 479)::L) R):=by
 simp only[vc]at S;go_enter_d func247,ntmps247;go_wp2_with (first|refine wk ?_|refine Ws ?_;clear S;intro W S)
 go_end0;exact⟨rfl,_,S⟩
end
section
theorem X6f{J:Gh}{vb nb sb:Nat}{ded:Bool}{a:Value}{t:Tr}{VB:List Blk}(ht:Q0r J a t)(hsz:t.size<2 ^ 30)(hs:Q2c J sb)(hn:Nm J nb (nmTy ded))(hv:Q2n J VB vb a):
  Ac 204 #[Q9e vb nb sb,sn] J VB [] fun u K L' R'=>K=J/\u=.nilIface/\L'=VB/\R'=[]:=by
 intro M I w W S;have HV:=Hd (nd5 ht hsz hs hn hv);clear ht hsz hs hn hv;unfold Q9e;go_enter_defers func204,ntmps204;go_wp2_with (first|refine wk ?_|refine wn ?_;clear S;intro y W S)
 refine Q0a S (walker_s (vb:=vb) (nb:=nb) (sb:=sb)) ?_;rintro r K L' R' W' hle ⟨hKJ,rfl,b,al,rfl,rfl⟩ S2;have hJK:=hKJ.symm;subst hJK;clear S;have S:=S2;clear S2;replace S:=sa S;go_wp2_with fail
 go_loopg [13] 0 (fun _ s13 wr=>s13=.int .i64 0/\Hid (St M I J w wr ((b,vc vb sb nb al false none,.t 479)::VB) []))
 case atStart=>exact⟨rfl,Hd (keep S)⟩
 case round=>
  clear S;obtain⟨rfl,S⟩:=hrel;go_wp2_with fail
  refine Q0a (L1:=(b,vc vb sb nb al false none,.t 479)::VB) (R1:=[]) S (vall J t.size _ _ HV.out.1 t.size (Nat.le_refl _) (Nat.le_refl _) b vb sb nb al false ded 0 none [] VB [] .nilFunc HV.out.2.2.1 HV.out.2.2.2.1 HV.out.2.2.2.2 .nil ⟨Nat.zero_le _,HV.out.2.1⟩) ?_;rintro r K L' R' W' hle ⟨hKJ,rfl,n2,sp2,PB2,hn2,hsp2,hp2,rfl⟩ S2;have hJK:=hKJ.symm;subst hJK;clear S hn2 hsp2 hp2;have S:=S2;clear S2;replace S:=sa S;go_wp2_with fail
  refine leaves_cons (f:=247) (args:=#[pt b]) b0f (by simp[go_sem,Go.MuLone.run_callFunc_enter func247 kr rfl]) ?_;refine(finished_d S).mono ?_;rintro e u' w'' ⟨rfl,rfl,cs,S⟩;exact⟨_,results_tmp rfl _ _ _,ap gR ⟨rfl,rfl,rfl,rfl⟩ (show St _ _ _ _ _ VB []from keep S)⟩
end
section
def Q1n(vb nb sb:Nat):List Value:=[.iface 339 (pt vb),pt nb,pn,pn,pn,pn,.bool false,pt sb]
theorem asTypedU_s:Ac 320 #[Q3q vb,pt sb,Q0v nb] J [] [] fun u K L' R'=>K=J/\R'=[]/\∃b,u=pt b/\L'=[(b,Q1n vb nb sb,.t 367)]:=by
 unfold Q3q Q0v;intro M I w W S;go_enter func320,ntmps320;go_wp2_with (first|refine wk ?_|refine wn ?_;clear S;(first|(fail_if_success revert y);intro y W S|intro b W S))
 go_ret;exact ap gR ⟨rfl,rfl,b,rfl,rfl⟩ (show St _ _ _ _ _ [(b,L1c vb nb sb,.t 367)] []from keep S)
theorem asTyped_s{ded:Bool}{a:Value}{t:Tr}{VB:List Blk}(ht:Q0r J a t)(hsz:t.size<2 ^ 30)(hs:Q2c J sb)(hn:Nm J nb (nmTy ded))(hv:Q2n J VB vb a):
  Ac 147 #[Q3q vb,pt sb,Q0v nb,sn] J VB [] fun u K L' R'=>K=J/\R'=[]/\∃b,u=.tuple #[pt b,.nilIface]/\L'=(b,Q1n vb nb sb,.t 367)::VB:=by
 have HV:=Hd (X6f (VB:=VB) ht hsz hs hn hv);clear ht hsz hs hn hv;unfold Q3q Q0v;intro M I w W S;go_enter func147,ntmps147;go_wp2_with (first|refine wk ?_|refine wn ?_;clear S;(first|(fail_if_success revert y);intro y W S|intro b W S))
 refine Q0a S HV.out ?_;rintro r K L' R' W' hle ⟨hKJ,rfl,rfl,rfl⟩ S2;have hJK:=hKJ.symm;subst hJK;clear S;have S:=S2;clear S2;go_wp2_with fail
 refine bT ?_;exact ap gR ⟨rfl,rfl,b,rfl,rfl⟩ (show St _ _ _ _ _ ((b,L1c vb nb sb,.t 367)::L') []from keep S)
end
section
instance (priority:=low) {α:Type} {L:List α}:Part L L:=⟨fun _ h=>h⟩
def Sees(J:Gh)(L:List Blk)(b o:Nat)(cs:List Value):Prop:=∀W,Vw J L [] W->∀(i:Nat) u,cs[i]?=some u->W.cell? (ad b (o+i))=some u
variable{cs:List Value}{b o b1 o1 b2 o2 lp:Nat}{L:List Blk}
theorem Sees.frz(h:∀(i:Nat) u,cs[i]?=some u->J.cell (ad b (o+i)) u):Sees J L b o cs:=fun _ hW i u hu=>(h i u hu).at hW.2.2
theorem Sees.blk{all:List Value}{t:TypeId}(h:(b,all,Bt.t t)∈L)(hs:∀(i:Nat) u,cs[i]?=some u->all[o+i]?=some u):Sees J L b o cs:=fun W hW i u hu=>by
 have h0:W.heap[b]?=some (.cells all.toArray t (0,0)):=hW.1 _ h;rw[Q0e h0 (o+i)];simpa using hs i u hu
theorem Sees.sub{p:Nat}{sub:List Value}(h:Sees J L b o cs)(hs:∀(i:Nat) u,sub[i]?=some u->cs[p+i]?=some u):Sees J L b (o+p) sub:=fun W hW i u hu=>by
 rw[Nat.add_assoc];exact h W hW (p+i) u (hs i u hu)
theorem atomEq0_s(h1:Sees J L b1 o1 [pn,pn,pn])(h2:Sees J L b2 o2 [pn,pn,pn]):Ac 168 #[.pointer (some (ad b1 o1)),.pointer (some (ad b2 o2))] J L [] fun u K L' R'=>K=J/\u=.bool true/\L'=L/\R'=[]:=by
 intro M I w W S;have SA:=Hd (And.intro h1 h2);clear h1 h2;go_enter func168,ntmps168;go_wp2_with fail
 refine Q0x S L [] [] [0,1,2,3,4,5,6,7,8,9,10] 0 kr kr rfl kr fun W S=>?_;refine tk12 ?_;refine En ?_;go_wp2_with (first|refine Q1a rfl rfl rfl ((SA.out.1) _ (vw S gR) 0 _ rfl) ?_|refine Q1a rfl rfl rfl ((SA.out.1) _ (vw S gR) 1 _ rfl) ?_|refine Q1a rfl rfl rfl ((SA.out.1) _ (vw S gR) 2 _ rfl) ?_)
 refine Q0x S L [] [] [0,1,2,3,4,5,6,7,8,9,10] 0 kr kr rfl kr fun W S=>?_;refine tk13 ?_;refine En ?_;go_wp2_with (first|refine Q1a rfl rfl rfl ((SA.out.1) _ (vw S gR) 0 _ rfl) ?_|refine Q1a rfl rfl rfl ((SA.out.1) _ (vw S gR) 1 _ rfl) ?_|refine Q1a rfl rfl rfl ((SA.out.1) _ (vw S gR) 2 _ rfl) ?_)
 refine Q0x S L [] [] [0,1,2,3,4,5,6,7,8,9,10] 0 kr kr rfl kr fun W S=>?_;refine tk14 ?_;refine En ?_;go_wp2_with (first|refine Q1a rfl rfl rfl ((SA.out.1) _ (vw S gR) 0 _ rfl) ?_|refine Q1a rfl rfl rfl ((SA.out.1) _ (vw S gR) 1 _ rfl) ?_|refine Q1a rfl rfl rfl ((SA.out.1) _ (vw S gR) 2 _ rfl) ?_)
 exact e0n
variable{k:BA}
theorem Z8o{n1 n2:Nat}(h1:Sees J L b1 o1 (Q4k n1))(h2:Sees J L b2 o2 (Q4k n2))(hn1:Nm J n1 k)(hn2:Nm J n2 k):Ac 112 #[.pointer (some (ad b1 o1)),.pointer (some (ad b2 o2))] J L [] fun u K L' R'=>K=J/\u=.bool true/\L'=L/\R'=[]:=by
 have h3:Sees J L b1 (o1+1) [pn,pn,pn]:=h1.sub fun i u hu=>by
  match i,hu with
  |0,h|1,h|2,h=>simpa[Q4k]using h
  |i+3,h=>simp at h
 have h4:Sees J L b2 (o2+1) [pn,pn,pn]:=h2.sub fun i u hu=>by
  match i,hu with
  |0,h|1,h|2,h=>simpa[Q4k]using h
  |i+3,h=>simp at h
 intro M I w W S;have SA:=Hd (And.intro h1 h2);have SB:=Hd (And.intro h3 h4);have HN:=Hd (And.intro hn1 hn2);clear h1 h2 h3 h4 hn1 hn2;go_enter func112,ntmps112;go_wp2_with fail
 refine Q0x S L [] [] [0,1,2,3,4,5,6,7,8,9,10] 0 kr kr rfl kr fun W S=>?_;refine tk15 ?_;refine En ?_;go_wp2_with (refine Q1a rfl rfl rfl ((SA.out.1) _ (vw S gR) 0 _ rfl) ?_)
 refine Q0x S L [] [] [0,1,2,3,4,5,6,7,8,9,10,11,12] 0 kr kr rfl kr fun W S=>?_;refine tk15 ?_;refine En ?_;go_wp2_with fail
 refine Q0x S L [] [] [0,1,2,3,4,5,6,7,8] 0 kr kr rfl kr fun W S=>?_;refine tk16 ?_;refine En ?_;go_wp2_with fail
 refine Q0x S L [] [] [0,1,2,3,4,5,6,7,8] 0 kr kr rfl kr fun W S=>?_;refine tk17 ?_;refine En ?_;go_wp2_with fail
 refine Q0x S L [] [] [0,1,2,3,4,5] 2 kr kr rfl kr fun W S=>?_;refine Zw [7] 0 6 ?_;intro KK hKK;go_simp;refine Q0a S (atomEq0_s SB.out.1 SB.out.2) ?_;rintro r5 K5 L5 R5 W' hle5 ⟨hKJ,rfl,hLL,rfl⟩ S2;have hJK:=hKJ.symm;subst hJK;have hL2:=hLL.symm;subst hL2;clear S;have S:=S2;clear S2;replace S:=sa S;refine Et ?_;go_wp2_with fail
 exact e0n
theorem listEq_s(hn:Nm J nb k)(hc:J lp=some (.cells (L1n nb Q1p).toArray 332 (0,0))):Ac 220 #[pt lp,pt lp] J L [] fun u K L' R'=>K=J/\u=.bool true/\L'=L/\R'=[]:=by
 intro M I w W S;have HC:Hid (∀(i:Nat) u,((L1n nb Q1p):List Value)[i]?=some u->J.cell (ad lp i) u):=Hd fun i u h=>⟨_,_,_,hc,rfl,by simpa using h⟩
 have SR:Sees J L lp 0 (Q4k nb):=Sees.frz fun i u h=>HC.out (0+i) u (by
  match i,h with
  |0,h|1,h|2,h|3,h|4,h|5,h=>simpa[Q4k]using h
  |i+6,h=>simp[Q4k]at h)
 have SR:=Hd SR;have HN:=Hd hn;clear hc hn;go_enter func220,ntmps220;go_wp2_with fail
 refine Q0x S L [] [] [0,1,2,3,4,5] 2 kr kr rfl kr fun W S=>?_;refine Zw [7] 0 6 ?_;intro KK hKK;go_simp;refine Q0a S (Z8o (L:=L) (b1:=lp) (o1:=0) (b2:=lp) (o2:=0) SR.out SR.out HN.out HN.out) ?_;rintro r5 K5 L5 R5 W' hle5 ⟨hKJ,rfl,hLL,rfl⟩ S2;have hJK:=hKJ.symm;subst hJK;have hL2:=hLL.symm;subst hL2;clear S;have S:=S2;clear S2;replace S:=sa S;refine Et ?_;go_wp2_with fail
 refine Q0x S L [] [] [0,1,2,3,4,5,6,7,8] 0 kr kr rfl kr fun W S=>?_;refine tk18 ?_;refine En ?_;go_wp2_with fail
 refine Q0x S L [] [] [0,1,2,3,4,5,6,7,8,9,10] 0 kr kr rfl kr fun W S=>?_;refine tk19 ?_;refine En ?_;go_wp2_with (refine wlf (HC.out 7 _ rfl) S ?_)
 go_loopg [51] 0 (fun _ s51 wr=>s51=.int .i64 0/\Hid (St M I J w wr L []))
 case atStart=>exact⟨rfl,S⟩
 case round=>
  clear S;obtain⟨rfl,S⟩:=hrel;go_wp2_with fail
  exact e0n
theorem mapEq_s{x:BA}(hn:Nm J nb k)(hc:J lp=some (.cells (L1a nb x).toArray 337 (0,0))):Ac 221 #[pt lp,pt lp] J L [] fun u K L' R'=>K=J/\u=.bool true/\L'=L/\R'=[]:=by
 intro M I w W S;have HC:Hid (∀(i:Nat) u,((L1a nb x):List Value)[i]?=some u->J.cell (ad lp i) u):=Hd fun i u h=>⟨_,_,_,hc,rfl,by simpa using h⟩
 have SR:Sees J L lp 2 (Q4k nb):=Sees.frz fun i u h=>HC.out (2+i) u (by
  match i,h with
  |0,h|1,h|2,h|3,h|4,h|5,h=>simpa[Q4k]using h
  |i+6,h=>simp[Q4k]at h)
 have SR:=Hd SR;have HN:=Hd hn;clear hc hn;go_enter func221,ntmps221;go_wp2_with fail
 refine Q0x S L [] [] [0,1,2,3,4,5] 2 kr kr rfl kr fun W S=>?_;refine Zw [7] 0 6 ?_;intro KK hKK;go_simp;refine Q0a S (Z8o (L:=L) (b1:=lp) (o1:=2) (b2:=lp) (o2:=2) SR.out SR.out HN.out HN.out) ?_;rintro r5 K5 L5 R5 W' hle5 ⟨hKJ,rfl,hLL,rfl⟩ S2;have hJK:=hKJ.symm;subst hJK;have hL2:=hLL.symm;subst hL2;clear S;have S:=S2;clear S2;replace S:=sa S;refine Et ?_;go_wp2_with fail
 refine Q0x S L [] [] [0,1,2,3,4,5,6,7,8] 0 kr kr rfl kr fun W S=>?_;refine tk20 ?_;refine En ?_;go_wp2_with fail
 refine Q0x S L [] [] [0,1,2,3,4,5,6,7,8,9,10] 0 kr kr rfl kr fun W S=>?_;refine tk21 ?_;refine En ?_;go_wp2_with (refine wlf (HC.out 0 _ rfl) S ?_)
 go_loopg [52] 0 (fun _ s52 wr=>s52=.int .i64 0/\Hid (St M I J w wr L []))
 case atStart=>exact⟨rfl,S⟩
 case round=>
  clear S;obtain⟨rfl,S⟩:=hrel;go_wp2_with fail
  refine Q0x S L [] [] [0,1,2,3,4,5,6,7,8,9,10] 0 kr kr rfl kr fun W S=>?_;refine tk22 ?_;refine En ?_;go_wp2_with (refine wlf (HC.out 1 _ rfl) S ?_)
  go_loopg [86] 0 (fun _ s86 wr=>s86=.int .i64 0/\Hid (St M I J w wr L []))
  case atStart=>exact⟨rfl,S⟩
  case round=>
   clear S;obtain⟨rfl,S⟩:=hrel;go_wp2_with fail
   exact e0n
theorem atomEqS_s{sc:Nat}(h1:Sees J L b1 o1 [pt sc,pn,pn])(h2:Sees J L b2 o2 [pt sc,pn,pn])(hs:J.cell (ad sc 0) (.string k)):Ac 168 #[.pointer (some (ad b1 o1)),.pointer (some (ad b2 o2))] J L [] fun u K L' R'=>K=J/\u=.bool true/\L'=L/\R'=[]:=by
 intro M I w W S;have SA:=Hd (And.intro h1 h2);have HS:=Hd hs;clear h1 h2;go_enter func168,ntmps168;go_wp2_with fail
 refine Q0x S L [] [] [0,1,2,3,4,5,6,7,8,9,10] 0 kr kr rfl kr fun W S=>?_;refine tk12 ?_;refine En ?_;go_wp2_with (first|refine Q1a rfl rfl rfl ((SA.out.1) _ (vw S gR) 0 _ rfl) ?_|refine Q1a rfl rfl rfl ((SA.out.1) _ (vw S gR) 1 _ rfl) ?_|refine Q1a rfl rfl rfl ((SA.out.1) _ (vw S gR) 2 _ rfl) ?_)
 refine Q0x S L [] [] [0,1,2,3,4,5,6,7,8,9,10] 0 kr kr rfl kr fun W S=>?_;refine tk13 ?_;refine En ?_;go_wp2_with (first|refine Q1a rfl rfl rfl ((SA.out.1) _ (vw S gR) 0 _ rfl) ?_|refine Q1a rfl rfl rfl ((SA.out.1) _ (vw S gR) 1 _ rfl) ?_|refine Q1a rfl rfl rfl ((SA.out.1) _ (vw S gR) 2 _ rfl) ?_)
 refine Q0x S L [] [] [0,1,2,3,4,5,6,7,8,9,10] 0 kr kr rfl kr fun W S=>?_;refine tk14 ?_;refine En ?_;go_wp2_with (first|refine Q1a rfl rfl rfl ((SA.out.1) _ (vw S gR) 0 _ rfl) ?_|refine Q1a rfl rfl rfl ((SA.out.1) _ (vw S gR) 1 _ rfl) ?_|refine Q1a rfl rfl rfl ((SA.out.1) _ (vw S gR) 2 _ rfl) ?_)
 refine Q0x S L [] [] [0,1,2,3,4,5,6,7,8,9,10,11,12,13] 0 kr kr rfl kr fun W S=>?_;refine tk23 ?_;refine En ?_;go_wp2_with fail
 exact e0n
theorem atomEqL_s(h1:Sees J L b1 o1 [pn,pt lp,pn])(h2:Sees J L b2 o2 [pn,pt lp,pn])(h:Ac 220 #[pt lp,pt lp] J L [] fun u K L' R'=>K=J/\u=.bool true/\L'=L/\R'=[]):Ac 168 #[.pointer (some (ad b1 o1)),.pointer (some (ad b2 o2))] J L [] fun u K L' R'=>K=J/\u=.bool true/\L'=L/\R'=[]:=by
 intro M I w W S;have SA:=Hd (And.intro h1 h2);have HS:=Hd h;clear h1 h2;go_enter func168,ntmps168;go_wp2_with fail
 refine Q0x S L [] [] [0,1,2,3,4,5,6,7,8,9,10] 0 kr kr rfl kr fun W S=>?_;refine tk12 ?_;refine En ?_;go_wp2_with (first|refine Q1a rfl rfl rfl ((SA.out.1) _ (vw S gR) 0 _ rfl) ?_|refine Q1a rfl rfl rfl ((SA.out.1) _ (vw S gR) 1 _ rfl) ?_|refine Q1a rfl rfl rfl ((SA.out.1) _ (vw S gR) 2 _ rfl) ?_)
 refine Q0x S L [] [] [0,1,2,3,4,5,6,7,8,9,10] 0 kr kr rfl kr fun W S=>?_;refine tk13 ?_;refine En ?_;go_wp2_with (first|refine Q1a rfl rfl rfl ((SA.out.1) _ (vw S gR) 0 _ rfl) ?_|refine Q1a rfl rfl rfl ((SA.out.1) _ (vw S gR) 1 _ rfl) ?_|refine Q1a rfl rfl rfl ((SA.out.1) _ (vw S gR) 2 _ rfl) ?_)
 refine Q0x S L [] [] [0,1,2,3,4,5,6,7,8,9,10] 0 kr kr rfl kr fun W S=>?_;refine tk14 ?_;refine En ?_;go_wp2_with (first|refine Q1a rfl rfl rfl ((SA.out.1) _ (vw S gR) 0 _ rfl) ?_|refine Q1a rfl rfl rfl ((SA.out.1) _ (vw S gR) 1 _ rfl) ?_|refine Q1a rfl rfl rfl ((SA.out.1) _ (vw S gR) 2 _ rfl) ?_)
 refine Q0x S L [] [] [0,1,2,3,4,5,6,7] 2 kr kr rfl kr fun W S=>?_;refine tk13 ?_;refine Wr [9] 0 8 fun KK hKK=>?_;go_simp;refine Q0a S HS.out ?_;rintro r5 K5 L5 R5 W' hle5 ⟨hKJ,rfl,hLL,rfl⟩ S2;have hJK:=hKJ.symm;subst hJK;have hL2:=hLL.symm;subst hL2;clear S;have S:=S2;clear S2;replace S:=sa S;refine Hk ?_;refine tk13 ?_;refine En ?_;go_wp2_with fail
 exact e0n
theorem atomEqM_s{mp:Nat}(h1:Sees J L b1 o1 [pn,pn,pt mp])(h2:Sees J L b2 o2 [pn,pn,pt mp])(h:Ac 221 #[pt mp,pt mp] J L [] fun u K L' R'=>K=J/\u=.bool true/\L'=L/\R'=[]):Ac 168 #[.pointer (some (ad b1 o1)),.pointer (some (ad b2 o2))] J L [] fun u K L' R'=>K=J/\u=.bool true/\L'=L/\R'=[]:=by
 intro M I w W S;have SA:=Hd (And.intro h1 h2);have HS:=Hd h;clear h1 h2;go_enter func168,ntmps168;go_wp2_with fail
 refine Q0x S L [] [] [0,1,2,3,4,5,6,7,8,9,10] 0 kr kr rfl kr fun W S=>?_;refine tk12 ?_;refine En ?_;go_wp2_with (first|refine Q1a rfl rfl rfl ((SA.out.1) _ (vw S gR) 0 _ rfl) ?_|refine Q1a rfl rfl rfl ((SA.out.1) _ (vw S gR) 1 _ rfl) ?_|refine Q1a rfl rfl rfl ((SA.out.1) _ (vw S gR) 2 _ rfl) ?_)
 refine Q0x S L [] [] [0,1,2,3,4,5,6,7,8,9,10] 0 kr kr rfl kr fun W S=>?_;refine tk13 ?_;refine En ?_;go_wp2_with (first|refine Q1a rfl rfl rfl ((SA.out.1) _ (vw S gR) 0 _ rfl) ?_|refine Q1a rfl rfl rfl ((SA.out.1) _ (vw S gR) 1 _ rfl) ?_|refine Q1a rfl rfl rfl ((SA.out.1) _ (vw S gR) 2 _ rfl) ?_)
 refine Q0x S L [] [] [0,1,2,3,4,5,6,7,8,9,10] 0 kr kr rfl kr fun W S=>?_;refine tk14 ?_;refine En ?_;go_wp2_with (first|refine Q1a rfl rfl rfl ((SA.out.1) _ (vw S gR) 0 _ rfl) ?_|refine Q1a rfl rfl rfl ((SA.out.1) _ (vw S gR) 1 _ rfl) ?_|refine Q1a rfl rfl rfl ((SA.out.1) _ (vw S gR) 2 _ rfl) ?_)
 refine Q0x S L [] [] [0,1,2,3,4,5,6,7] 2 kr kr rfl kr fun W S=>?_;refine tk14 ?_;refine Wr [9] 0 8 fun KK hKK=>?_;go_simp;refine Q0a S HS.out ?_;rintro r5 K5 L5 R5 W' hle5 ⟨hKJ,rfl,hLL,rfl⟩ S2;have hJK:=hKJ.symm;subst hJK;have hL2:=hLL.symm;subst hL2;clear S;have S:=S2;clear S2;replace S:=sa S;refine Hk ?_;refine tk14 ?_;refine En ?_;go_wp2_with fail
 exact e0n
theorem X8e{s l m k:Nat}{ded:Bool}{c:List Value}(hk:k≠0)(hA:Q3a J s l m ded)(hc:Q5v k s l m=.agg c.toArray)(h1:Sees J L b1 o1 c)(h2:Sees J L b2 o2 c):Ac 168 #[.pointer (some (ad b1 o1)),.pointer (some (ad b2 o2))] J L [] fun u K L' R'=>K=J/\u=.bool true/\L'=L/\R'=[]:=by
 obtain⟨h3,⟨n1,h4,h5⟩,⟨n2,h6,h7⟩⟩:=hA;unfold Q5v at hc;split at hc
 ·exact absurd rfl hk
 ·have e:c=[pn,pt l,pn]:=by simpa using(Value.agg.inj hc).symm
  subst e;exact atomEqL_s h1 h2 (listEq_s h4 h5)
 ·have e:c=[pn,pn,pt m]:=by simpa using(Value.agg.inj hc).symm
  subst e;exact atomEqM_s h1 h2 (mapEq_s h6 h7)
 ·have e:c=[pt s,pn,pn]:=by simpa using(Value.agg.inj hc).symm
  subst e;exact atomEqS_s h1 h2 h3
end
end Go.Proofs.YtbmklgemmjgjfaaGreat
