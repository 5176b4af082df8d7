/- Part 12: Wff, Wfx, Clm, Tlw, Flt, Fel. -/
import Derived.Deep.RegionLaw
import Derived.Test.YtbmklgemmjgjfaaGreatT08
import Derived.Test.YtbmklgemmjgjfaaGreatT09
namespace Go.Proofs.YtbmklgemmjgjfaaGreat
open List (mem_append mem_cons mem_cons_of_mem mem_cons_self mem_map)
open Go.RowKit Go.Maps Tryz
set_option linter.unusedVariables false
set_option linter.unusedSimpArgs false
set_option maxRecDepth 100000
set_option maxHeartbeats 4000000
variable{w:World}{I:Gh}
section
theorem info9:(prog.info? 9).map (fun i=>(i.zero,i.size,i.bytes))=some (some (.string ⟨#[]⟩),1,16):=by kernel_rfl
variable{B:Nat}{W:World}
theorem Q4n.take{size n:Nat}{A:OA}{xs:List Value}(h:Q4n w B size A n xs){i:Nat}(hi:i<=n):Q4n w B size A i (xs.take (i*size)):=by
 refine⟨by rw[List.length_take,h.1];exact Nat.min_eq_left (Nat.mul_le_mul_right _ hi),fun h0=>?_⟩;obtain⟨ad,e,hb,hc⟩:=h.2 om;refine⟨ad,e,hb,fun j u hu=>hc j u ?_⟩;rw[List.getElem?_take]at hu;split at hu
 ·exact hu
 ·cases hu
theorem Z8a(vs:List V6)(i:Nat):(Q4l vs).take (i*6)=Q4l (vs.take i):=by
 induction vs generalizing i with
 |nil=>simp[Q4l]
 |cons v vs ih=>
  cases i with
  |zero=>simp[Q4l]
  |succ i=>
   rw[Q8e,List.take_succ_cons,Q8e,<-ih];rw[show(i+1)*6=v.cells.length+i*6 by simp[V6.cells];omega,List.take_append,List.take_of_length_le om];simp
theorem Z8h(vs:List V6)(i:Nat):(Q4l vs).drop (i*6)=Q4l (vs.drop i):=by
 induction vs generalizing i with
 |nil=>simp[Q4l]
 |cons v vs ih=>
  cases i with
  |zero=>simp[Q4l]
  |succ i=>
   rw[Q8e,List.drop_succ_cons,<-ih];rw[show(i+1)*6=v.cells.length+i*6 by simp[V6.cells];omega,List.drop_append];simp
variable{ys:List V6}{xs:List BA}{n k f s kv lv:Value}
theorem Mk.setRowBelow(h:Mk I w W B k n f s kv lv xs ys)(hi:I.In w){c:Nat}(hc:c<B)(hw:w.heap.size<=c)(cs:Array Value):Mk I w (W.setRow c cs) B k n f s kv lv xs ys:=
 ⟨h.step.setRow (hi.none hw) (fun hb=>absurd hb om) cs,h.low,(setRow_other _ _ _ _ om).trans h.cells,Q1q h.keys (fun g hg=>setRow_other _ _ _ _ (by have:=(Q2e h.keys hg).1;omega)),Q1q h.vals (fun g hg=>setRow_other _ _ _ _ (by have:=(Q2e h.vals hg).1;omega))⟩
theorem Mk.nK(h:Mk I w W B k n f s kv lv xs ys):some B≠kv.ownBlock:=fun e=>by have:=(Q2e h.keys e.symm).1;omega
theorem Mk.nL(h:Mk I w W B k n f s kv lv xs ys):some B≠lv.ownBlock:=fun e=>by have:=(Q2e h.vals e.symm).1;omega
theorem Mk.alloc(h:Mk I w W B k n f s kv lv xs ys)(o:Obj):Mk I w (W.alloc o) B k n f s kv lv xs ys:=
 ⟨h.step.alloc o,h.low,(Q0m (Q1r h.cells)).trans h.cells,Q1q h.keys (fun g hg=>Q0m (Q2e h.keys hg).2.1),Q1q h.vals (fun g hg=>Q0m (Q2e h.vals hg).2.1)⟩
inductive WFp(I:Gh)(w:World)(xs:List BA)(ys:List V6):Ending->World->Prop
 |mk (kv lv:Value) (B:Nat) {e:Ending} {w':World} (he:e=.returned (.agg #[.int .i64 6,.int .i64 0,.float .f64 0,.string ⟨#[]⟩,kv,lv])) (h:Mk I w w' B (.int .i64 6) (.int .i64 0) (.float .f64 0) (.string ⟨#[]⟩) kv lv xs ys):WFp I w xs ys e w'
theorem z2m{P:Prop}(h:P:=by
 go_wp2_with fail
 all_goals go_meet
 all_goals exact⟨rfl,_,_,hM.1,(hM.2 _ om).trans m1',(hM.2 _ om).trans m2',(hM.2 _ om).trans m3'⟩):P:=h
theorem X6k(I:Gh)(k n:Int)(f:Nat)(s:BA)(a1:OA)(c1:Nat)(ks:List BA)(a2:OA)(c2:Nat)(vs:List V6)(key:BA)(v:V6)(i ip:Nat)(hb:Bool)(hipd:Hid (ip=if hb=true then i+1 else i))(w:World)(hi:I.In w)
  (hk:ks.length<=c1/\c1<=maxLen)(h1:Q4h I a1 ks)(hn:vs.length<=c2/\c2<=maxLen)(h2:Q6n I a2 vs)(hl:ks.length=vs.length)(hsz:ks.length<=2 ^ 32)(hil:i<=ks.length)(hil2:hb=true->i<ks.length)
  (H:∀w,I.In w->Calls prog 68 #[.agg (L0e k n f s a1 ks.length c1 a2 vs.length c2).toArray,.string key] w fun e w'=>e=.returned (.tuple #[.int .i64 i,.bool hb])/\Step Nix I I w w'):
  Calls prog 80 #[.agg (L0e k n f s a1 ks.length c1 a2 vs.length c2).toArray,.string key,v.agg] w fun e w'=>WFp I w (ks.take i++key::ks.drop ip) (vs.take i++v::vs.drop ip) e w':=by
 obtain⟨i0,hi0,hz0,hz1,hz2⟩:=info_parts info9;obtain⟨i5,hi5,hy0,hy1,hy2⟩:=info_parts info35;have hk1:=hk.1;have hn1:=hn.1;have hil':i<=vs.length:=by omega
 have hsz':vs.length<=2 ^ 32:=by omega
 have HL:=Hd hl;have HK:=Hd (And.intro hk hn);clear hl hk hn;unfold V6.agg;go_enter func80,ntmps80;go_wp2_with fail
 refine(H _ (((hi.alloc _).alloc _).alloc _)).mono ?_;rintro e w1 ⟨rfl,st⟩;have st1:=(((((Step.refl (M:=Nix) hi).alloc _).alloc _).alloc _).trans0 st)
 have m1:w1.heap[w.heap.size]?=some (.cells (L0e k n f s a1 ks.length c1 a2 vs.length c2).toArray 35 (0,0)):=
  st.heap ((Q0m b1r).trans ((Q0m b0f).trans (Q1b rfl))) (fun x=>x)
 have m2:w1.heap[w.heap.size+1]?=some (.cells (L0a v).toArray 35 (0,0)):=
  st.heap ((Q0m b0f).trans (Q1b b0f)) (fun x=>x)
 have m3:w1.heap[w.heap.size+1+1]?=some (.cells L0c.toArray 35 (0,0)):=
  st.heap (Q1b b0f) (fun x=>x)
 clear st H;go_upto_region 3 with fail;have mk0:Mk I w (w1.alloc (.cells L1q.toArray 35)) w1.heap.size (.int .i64 6) (.int .i64 0) (.float .f64 0) (.string ⟨#[]⟩) (sn) (sn) [] []:=
  ⟨st1.alloc _,st1.size,Q1b rfl,⟨by simp,.inl ⟨rfl,rfl⟩⟩,⟨by simp[Q4l],.inl ⟨rfl,rfl⟩⟩⟩
 have m1':=(Q0m (o:=Obj.cells L1q.toArray 35) (Q1r m1)).trans m1;have m2':=(Q0m (o:=Obj.cells L1q.toArray 35) (Q1r m2)).trans m2;have m3':=(Q0m (o:=Obj.cells L1q.toArray 35) (Q1r m3)).trans m3;have l3:=Q1r m3;clear m1 m2 m3 st1;generalize w1.heap.size=B at*;generalize w1.alloc _=W at*;go_cut [9]from 17 (fun s9 wx=>s9=pt B/\∃kv lv,Mk I w wx B (.int .i64 6) (.int .i64 0) (.float .f64 0) (.string ⟨#[]⟩) kv lv (ks.take i) ([]:List V6)/\wx.heap[w.heap.size]?=some (.cells (L0e k n f s a1 ks.length c1 a2 vs.length c2).toArray 35 (0,0))/\wx.heap[w.heap.size+1]?=some (.cells (L0a v).toArray 35 (0,0))/\wx.heap[w.heap.size+1+1]?=some (.cells L0c.toArray 35 (0,0)))
 case first=>
  have q0:=Q0h mk0.cells;have q1:=Q0h m1';have q2:=Q0h m2';obtain⟨⟨_,_,_,_,q04,q05⟩,⟨_,_,_,_,f04,f05⟩⟩:=q0;obtain⟨⟨_,_,_,_,q14,q15⟩,_⟩:=q1;obtain⟨⟨q20,q21,q22,q23,q24,q25⟩,_⟩:=q2;have hic:i<=c1:=by omega
  have hic2:¬(c1<i):=by omega
  have r1:=(h1.reads mk0.step.inw).take hil;rw[Nat.mul_one,<-List.map_take]at r1;have hbl:(([]:List BA):List _).length+i<=2 ^ 34:=by simp;omega
  have hb1:(([]:List BA):List _).length+i<=maxLen:=by unfold maxLen;omega
  have hb2:((([]:List BA):List _).length+i)*16<=140737488355328:=by omega
  clear hbl;go_region_law (first|(refine Q4t _ rf _ _ _ rf (B+1) 9 i0 _ 1 16 underlying32 hi0 hz0 hz1 hz2 rfl om _ _ _ rf (mk0.drew.keys) _ _ _ _ _ rf (r1.drewN 1) X7r hb1 hb2 (Q1r mk0.cells) ?_;intro v' w' hown hgrow hat;obtain⟨A',N',c',rfl⟩:=Q4s hown;have z:=(hgrow.block B (Q1r mk0.drew.cells) mk0.drew.nK).trans mk0.drew.cells;have z1:=Q0e z 4;have z2:=Q4d z 4;simp at z1));all_goals
   have hM:=mk0.drew.growK (xs':=(ks.take i)) hi b0i hgrow
   exact z2m
 case rest=>
  clear mk0 m1' m2' m3';obtain⟨rfl,kv,lv,mk0,m1',m2',m3'⟩:=hcut;go_upto_region 4 with fail;go_cut [9]from 25 (fun s9 wx=>s9=pt B/\∃kv lv,Mk I w wx B (.int .i64 6) (.int .i64 0) (.float .f64 0) (.string ⟨#[]⟩) kv lv (ks.take i) (vs.take i)/\wx.heap[w.heap.size]?=some (.cells (L0e k n f s a1 ks.length c1 a2 vs.length c2).toArray 35 (0,0))/\wx.heap[w.heap.size+1]?=some (.cells (L0a v).toArray 35 (0,0))/\wx.heap[w.heap.size+1+1]?=some (.cells L0c.toArray 35 (0,0)))
  case first=>
   have q0:=Q0h mk0.cells;have q1:=Q0h m1';have q2:=Q0h m2';obtain⟨⟨_,_,_,_,q04,q05⟩,⟨_,_,_,_,f04,f05⟩⟩:=q0;obtain⟨⟨_,_,_,_,q14,q15⟩,_⟩:=q1;obtain⟨⟨q20,q21,q22,q23,q24,q25⟩,_⟩:=q2;have hic:i<=c2:=by omega
   have hic2:¬(c2<i):=by omega
   have r1:=(h2.reads mk0.step.inw).take hil';rw[Z8a]at r1;have hbl:(([]:List V6):List _).length+i<=2 ^ 34:=by simp;omega
   have hb1:(([]:List V6):List _).length+i<=maxLen:=by unfold maxLen;omega
   have hb2:((([]:List V6):List _).length+i)*88<=140737488355328:=by omega
   clear hbl;go_region_law (first|(refine Q4t _ rf _ _ _ rf (B+1) 35 i5 _ 6 88 underlying33 hi5 hy0 hy1 hy2 rfl om _ _ _ rf (mk0.drew.vals) _ _ _ _ _ rf (r1.drewN 1) X2j hb1 hb2 (Q1r mk0.cells) ?_;intro v' w' hown hgrow hat;obtain⟨A',N',c',rfl⟩:=Q4s hown;have z:=(hgrow.block B (Q1r mk0.drew.cells) mk0.drew.nL).trans mk0.drew.cells;have z1:=Q0e z 5;have z2:=Q4d z 5;simp at z1));all_goals
    have hM:=mk0.drew.growL (ys':=(vs.take i)) hi b0i hgrow
    exact z2m
  case rest=>
   clear mk0 m1' m2' m3';obtain⟨rfl,kv,lv,mk0,m1',m2',m3'⟩:=hcut;go_upto_region 5 with fail;go_cut [9]from 33 (fun s9 wx=>s9=pt B/\∃kv lv,Mk I w wx B (.int .i64 6) (.int .i64 0) (.float .f64 0) (.string ⟨#[]⟩) kv lv (ks.take i++[key]) (vs.take i)/\wx.heap[w.heap.size]?=some (.cells (L0e k n f s a1 ks.length c1 a2 vs.length c2).toArray 35 (0,0))/\wx.heap[w.heap.size+1]?=some (.cells (L0a v).toArray 35 (0,0))/\wx.heap[w.heap.size+1+1]?=some (.cells L0c.toArray 35 (0,0)))
   case first=>
    have q0:=Q0h mk0.cells;have q1:=Q0h m1';have q2:=Q0h m2';obtain⟨⟨_,_,_,_,q04,q05⟩,⟨_,_,_,_,f04,f05⟩⟩:=q0;obtain⟨⟨_,_,_,_,q14,q15⟩,_⟩:=q1;obtain⟨⟨q20,q21,q22,q23,q24,q25⟩,_⟩:=q2;have mka:=mk0.alloc (.cells #[.string key] 9);have hbl:((ks.take i):List _).length+1<=2 ^ 34:=by simp;omega
    have hb1:((ks.take i):List _).length+1<=maxLen:=by unfold maxLen;omega
    have hb2:(((ks.take i):List _).length+1)*16<=140737488355328:=by omega
    clear hbl;go_upto_region 6 with(at_builtin;refine Q5b _ rf _ _ _ rf (B+1) 9 i0 _ 1 16 underlying32 hi0 hz0 hz1 hz2 rfl om _ ?z0n0 ?z0xs0 rf ?z0own ?z0bb _ _ _ ?z0nn rf ?z0rd ?z0one ?z0hb1 ?z0hb2 ?z0base ?z0go;(case z0own=>exact mka.keys);(case z0rd=>exact Z5g _ #[.string key] 9 1 1 rfl);(case z0one=>simp[Value.oneCell']);(case z0hb1=>exact hb1);(case z0hb2=>exact hb2);(case z0base=>(have:=Q1r mk0.cells;simp;omega));intro v' w' hown hgrow hat;obtain⟨A',N',c',rfl⟩:=Q4s hown;have z:=(hgrow.block B (Q1r mka.cells) mka.nK).trans mka.cells;have z1:=Q0e z 4;have z2:=Q4d z 4;simp at z1)
    all_goals
     have hM:=mka.growK (xs':=(ks.take i++[key])) hi b0i hgrow
     all_goals go_meet
     all_goals exact⟨rfl,_,_,hM.1,(hM.2 _ om).trans ((Q0m (Q1r m1')).trans m1'),(hM.2 _ om).trans ((Q0m (Q1r m2')).trans m2'),(hM.2 _ om).trans ((Q0m (Q1r m3')).trans m3')⟩
   case rest=>
    clear mk0 m1' m2' m3';obtain⟨rfl,kv,lv,mk0,m1',m2',m3'⟩:=hcut;go_upto_region 6 with fail;go_cut [9]from 39 (fun s9 wx=>s9=pt B/\∃kv lv,Mk I w wx B (.int .i64 6) (.int .i64 0) (.float .f64 0) (.string ⟨#[]⟩) kv lv (ks.take i++[key]) (vs.take i++[v])/\wx.heap[w.heap.size]?=some (.cells (L0e k n f s a1 ks.length c1 a2 vs.length c2).toArray 35 (0,0))/\wx.heap[w.heap.size+1]?=some (.cells (L0a v).toArray 35 (0,0))/\wx.heap[w.heap.size+1+1]?=some (.cells L0c.toArray 35 (0,0)))
    case first=>
     have q0:=Q0h mk0.cells;have q1:=Q0h m1';have q2:=Q0h m2';obtain⟨⟨_,_,_,_,q04,q05⟩,⟨_,_,_,_,f04,f05⟩⟩:=q0;obtain⟨⟨_,_,_,_,q14,q15⟩,_⟩:=q1;obtain⟨⟨q20,q21,q22,q23,q24,q25⟩,_⟩:=q2;have mka:=mk0.alloc (.cells (L0a v).toArray 35);have hbl:((vs.take i):List _).length+1<=2 ^ 34:=by simp;omega
     have hb1:((vs.take i):List _).length+1<=maxLen:=by unfold maxLen;omega
     have hb2:(((vs.take i):List _).length+1)*88<=140737488355328:=by omega
     clear hbl;go_upto_region 7 with(at_builtin;refine Q5b _ rf _ _ _ rf (B+1) 35 i5 _ 6 88 underlying33 hi5 hy0 hy1 hy2 rfl om _ ?z1n0 ?z1xs0 rf ?z1own ?z1bb _ _ _ ?z1nn rf ?z1rd ?z1one ?z1hb1 ?z1hb2 ?z1base ?z1go;(case z1own=>exact mka.vals);(case z1rd=>exact Z5g _ (L0a v).toArray 35 1 6 rfl);(case z1one=>simp[Value.oneCell']);(case z1hb1=>exact hb1);(case z1hb2=>exact hb2);(case z1base=>(have:=Q1r mk0.cells;simp;omega));intro v' w' hown hgrow hat;obtain⟨A',N',c',rfl⟩:=Q4s hown;have z:=(hgrow.block B (Q1r mka.cells) mka.nL).trans mka.cells;have z1:=Q0e z 5;have z2:=Q4d z 5;simp at z1)
     all_goals
      have hM:=mka.growL (ys':=(vs.take i++[v])) hi b0i hgrow
      all_goals go_meet
      all_goals exact⟨rfl,_,_,hM.1,(hM.2 _ om).trans ((Q0m (Q1r m1')).trans m1'),(hM.2 _ om).trans ((Q0m (Q1r m2')).trans m2'),(hM.2 _ om).trans ((Q0m (Q1r m3')).trans m3')⟩
    case rest=>
     clear mk0 m1' m2' m3';obtain⟨rfl,kv,lv,mk0,m1',m2',m3'⟩:=hcut;go_upto_if 45 with fail;go_cut [7,9]from 45 (fun s7 s9 wx=>s7=.int .i64 (ip:Nat)/\s9=pt B/\∃kv lv,Mk I w wx B (.int .i64 6) (.int .i64 0) (.float .f64 0) (.string ⟨#[]⟩) kv lv (ks.take i++[key]) (vs.take i++[v])/\wx.heap[w.heap.size]?=some (.cells (L0e k n f s a1 ks.length c1 a2 vs.length c2).toArray 35 (0,0))/\wx.heap[w.heap.size+1]?=some (.cells (L0a v).toArray 35 (0,0))/\wx.heap[w.heap.size+1+1]?=some (.cells L0c.toArray 35 (0,0)))
     case first=>
      cases hb
      ·obtain rfl:ip=i:=by simpa using hipd.out
       go_upto_region 9 with fail;go_meet;exact⟨rfl,rfl,_,_,mk0,m1',m2',m3'⟩
      ·obtain rfl:ip=i+1:=by simpa using hipd.out
       go_upto_region 9 with fail;go_meet;exact⟨by simp,rfl,_,_,mk0,m1',m2',m3'⟩
     case rest=>
      clear mk0 m1' m2' m3';obtain⟨rfl,rfl,kv,lv,mk0,m1',m2',m3'⟩:=hcut;have hip:ip<=ks.length:=by rw[hipd.out];split<;>rename_i h<;>first|exact hil2 h|exact hil
      have hip':ip<=vs.length:=by rw[<-HL.out];exact hip
      go_upto_region 9 with fail;go_cut [9]from 48 (fun s9 wx=>s9=pt B/\∃kv lv,Mk I w wx B (.int .i64 6) (.int .i64 0) (.float .f64 0) (.string ⟨#[]⟩) kv lv (ks.take i++[key]++ks.drop ip) (vs.take i++[v])/\wx.heap[w.heap.size]?=some (.cells (L0e k n f s a1 ks.length c1 a2 vs.length c2).toArray 35 (0,0))/\wx.heap[w.heap.size+1]?=some (.cells (L0a v).toArray 35 (0,0))/\wx.heap[w.heap.size+1+1]?=some (.cells L0c.toArray 35 (0,0)))
      case first=>
       have q0:=Q0h mk0.cells;have q1:=Q0h m1';have q2:=Q0h m2';obtain⟨⟨_,_,_,_,q04,q05⟩,⟨_,_,_,_,f04,f05⟩⟩:=q0;obtain⟨⟨_,_,_,_,q14,q15⟩,_⟩:=q1;obtain⟨⟨q20,q21,q22,q23,q24,q25⟩,_⟩:=q2;have hic:ip<=c1:=by omega
       have hic2:¬(c1<ip):=by omega
       have hic3:¬(ks.length<ip):=by omega
       have r1:=(h1.reads mk0.step.inw).cut hip hk1;rw[Nat.mul_one,<-List.map_drop]at r1;obtain⟨q,hq⟩:∃q:Bool,(c1=ip)=(q=true):=⟨decide (c1=ip),by simp⟩
       simp only[hq]at r1;have hbl:((ks.take i++[key]):List _).length+(ks.length -ip)<=2 ^ 34:=by simp;omega
       have hb1:((ks.take i++[key]):List _).length+(ks.length -ip)<=maxLen:=by unfold maxLen;omega
       have hb2:(((ks.take i++[key]):List _).length+(ks.length -ip))*16<=140737488355328:=by omega
       clear hbl;go_region_law (first|(refine Q4t _ rf _ _ _ rf (B+1) 9 i0 _ 1 16 underlying32 hi0 hz0 hz1 hz2 rfl om _ _ _ rf (mk0.drew.keys) _ _ _ _ _ rf (r1.drewN 1) X7r hb1 hb2 (Q1r mk0.cells) ?_;intro v' w' hown hgrow hat;obtain⟨A',N',c',rfl⟩:=Q4s hown;have z:=(hgrow.block B (Q1r mk0.drew.cells) mk0.drew.nK).trans mk0.drew.cells;have z1:=Q0e z 4;have z2:=Q4d z 4;simp at z1));all_goals
        have hM:=mk0.drew.growK (xs':=(ks.take i++[key]++ks.drop ip)) hi b0i hgrow
        exact z2m
      case rest=>
       clear mk0 m1' m2' m3';obtain⟨rfl,kv,lv,mk0,m1',m2',m3'⟩:=hcut;go_upto_region 10 with fail;go_cut [9]from 56 (fun s9 wx=>s9=pt B/\∃kv lv,Mk I w wx B (.int .i64 6) (.int .i64 0) (.float .f64 0) (.string ⟨#[]⟩) kv lv (ks.take i++[key]++ks.drop ip) (vs.take i++[v]++vs.drop ip)/\wx.heap[w.heap.size]?=some (.cells (L0e k n f s a1 ks.length c1 a2 vs.length c2).toArray 35 (0,0))/\wx.heap[w.heap.size+1]?=some (.cells (L0a v).toArray 35 (0,0))/\wx.heap[w.heap.size+1+1]?=some (.cells L0c.toArray 35 (0,0)))
       case first=>
        have q0:=Q0h mk0.cells;have q1:=Q0h m1';have q2:=Q0h m2';obtain⟨⟨_,_,_,_,q04,q05⟩,⟨_,_,_,_,f04,f05⟩⟩:=q0;obtain⟨⟨_,_,_,_,q14,q15⟩,_⟩:=q1;obtain⟨⟨q20,q21,q22,q23,q24,q25⟩,_⟩:=q2;have hic:ip<=c2:=by omega
        have hic2:¬(c2<ip):=by omega
        have hic3:¬(vs.length<ip):=by omega
        have r1:=(h2.reads mk0.step.inw).cut hip' hn1;rw[Z8h]at r1;obtain⟨q,hq⟩:∃q:Bool,(c2=ip)=(q=true):=⟨decide (c2=ip),by simp⟩
        simp only[hq]at r1;have hbl:((vs.take i++[v]):List _).length+(vs.length -ip)<=2 ^ 34:=by simp;omega
        have hb1:((vs.take i++[v]):List _).length+(vs.length -ip)<=maxLen:=by unfold maxLen;omega
        have hb2:(((vs.take i++[v]):List _).length+(vs.length -ip))*88<=140737488355328:=by omega
        clear hbl;go_region_law (first|(refine Q4t _ rf _ _ _ rf (B+1) 35 i5 _ 6 88 underlying33 hi5 hy0 hy1 hy2 rfl om _ _ _ rf (mk0.drew.vals) _ _ _ _ _ rf (r1.drewN 1) X2j hb1 hb2 (Q1r mk0.cells) ?_;intro v' w' hown hgrow hat;obtain⟨A',N',c',rfl⟩:=Q4s hown;have z:=(hgrow.block B (Q1r mk0.drew.cells) mk0.drew.nL).trans mk0.drew.cells;have z1:=Q0e z 5;have z2:=Q4d z 5;simp at z1));all_goals
         have hM:=mk0.drew.growL (ys':=(vs.take i++[v]++vs.drop ip)) hi b0i hgrow
         exact z2m
       case rest=>
        clear mk0 m1' m2' m3';obtain⟨rfl,kv,lv,mk0,m1',m2',m3'⟩:=hcut;obtain⟨K1,K2,K3,rfl⟩:=Q4s mk0.keys;obtain⟨L1,L2,L3,rfl⟩:=Q4s mk0.vals;have mkR:=mk0.setRowBelow hi (show w.heap.size+1+1<B by omega) om (L2f K1 K2 K3 L1 L2 L3).toArray;have hRh:=setRow_heap wc (w.heap.size+1+1) _ (L2f K1 K2 K3 L1 L2 L3).toArray 35 (0,0) m3';have mb:=mk0.cells;have MK:=Hd mkR;have RH:=Hd hRh;clear mkR hRh mk0 m1' m2';go_wp2_with (first|refine wpList_load_row rf 35 _ rf B rf 35 _ _ _ mb underlying35 rfl sz35 ?_|refine wpList_store_row rf 35 _ _ rf (w.heap.size+1+1) (L2f K1 K2 K3 L1 L2 L3).toArray rf rf 35 _ m3' sz35 rfl (one6 rfl rfl rfl rfl rfl rfl) ?_)
        refine bT ?_;exact .mk _ _ B rfl (by simpa using MK.out)
end
section
theorem Z5o{α:Type}(m:List (BA×α))(k:BA)(v:α):(insK m k v).map (·.1)=(m.map (·.1)).take (lowb (m.map (·.1)) k)++k::(m.map (·.1)).drop (Z8s (m.map (·.1)) k):=by
 rw[X4y];simp[List.map_take,List.map_drop]
theorem insK_ivM(m:KT)(k:BA)(t:Tr):ivM (insK m k t)=(ivM m).take (lowb (m.map (·.1)) k)++t.iv::(ivM m).drop (Z8s (m.map (·.1)) k):=by
 rw[X4y,Z0n,Z0n];simp[List.map_take,List.map_drop]
theorem Z0x{I:Gh}{v u:V6}{m:KT}{t:Tr}(hv:VIs I v (Tr.map m).iv)(hm:(Tr.map m).ok)(hu:VIs I u t.iv)(key:BA)(hk:key.size<=maxLen)(hl:m.length<=2 ^ 32)(w:World)(hi:I.In w):
  Calls prog 80 #[v.agg,.string key,u.agg] w fun e w'=>∃(r:V6) (J:Gh),e=.returned r.agg/\Step Nix I J w w'/\VIs J r (Tr.map (insK m key t)).iv:=by
 have hkeys:=iv_keys hm;obtain⟨a1,c1,a2,c2,vs,rfl,hs,hk1,hks,h1,hn,h2,ha⟩:=hv.inv;have hlen:vs.length=(m.map (·.1)).length:=by rw[ha.length];simp[Tr.iv,IV.l,Z0n]
 have hn':vs.length<=c2/\c2<=maxLen:=by rw[ha.length];exact hn
 have e1:(Tr.map m).iv.ks=m.map (·.1):=rfl;have e2:(Tr.map m).iv.l=ivM m:=rfl;rw[e1]at hk1 hks h1 hkeys;rw[e2]at ha hn;have hil:=X6g (m.map (·.1)) key;have hmaxl:(m.map (·.1)).length<=maxLen:=by omega
 have F:∀w,I.In w->Calls prog 68 #[.agg #[.int .i64 6,.int .i64 0,.float .f64 0,.string ⟨#[]⟩,.slice a1 (m.map (·.1)).length c1,.slice a2 vs.length c2],.string key] w fun e w'=>e=.returned (.tuple #[.int .i64 (lowb (m.map (·.1)) key:Nat),.bool (decide ((m.map (·.1))[lowb (m.map (·.1)) key]?=some key))])/\Step Nix I I w w':=
  fun w hi=>Z4a h1 hmaxl hkeys 6 0 0 ⟨#[]⟩ c1 a2 vs.length c2 key w hi
 have W:=X6k I 6 0 0 ⟨#[]⟩ a1 c1 (m.map (·.1)) a2 c2 vs key u (lowb (m.map (·.1)) key) (Z8s (m.map (·.1)) key) (decide ((m.map (·.1))[lowb (m.map (·.1)) key]?=some key)) (Hd (by unfold Z8s;simp only[decide_eq_true_eq])) w hi
  hk1 h1 hn' h2 hlen.symm b2n hil (fun h=>(List.getElem?_eq_some_iff.1 (of_decide_eq_true h)).1) F
 have hall:All2 (VIs I) (vs.take (lowb (m.map (·.1)) key)++u::vs.drop (Z8s (m.map (·.1)) key)) (ivM (insK m key t)):=by
  rw[insK_ivM];exact(ha.take _).append (.cons hu (ha.drop _))
 have hstr:∀x∈(insK m key t).map (·.1),ByteArray.size x<=maxLen:=fun x hx=>by
  rw[Z5o]at hx;rcases mem_append.1 hx with h|h
  ·exact hks x (List.mem_of_mem_take h)
  ·rcases mem_cons.1 h with h|h
   ·rw[h];exact hk
   ·exact hks x (List.mem_of_mem_drop h)
 have hc:V6.agg ⟨(Tr.map m).iv.k,(Tr.map m).iv.n,(Tr.map m).iv.f,(Tr.map m).iv.s,a1,(m.map (·.1)).length,c1,a2,(ivM m).length,c2⟩=.agg #[.int .i64 6,.int .i64 0,.float .f64 0,.string ⟨#[]⟩,.slice a1 (m.map (·.1)).length c1,.slice a2 vs.length c2]:=by rw[<-ha.length];rfl
 rw[e1,e2,hc];refine W.mono ?_;rintro e w' ⟨kv,lv,B,rfl,mk⟩;obtain⟨r,J,h3,h4,h5⟩:=mk.freeze hi hall b0t (by rw[Z5o]at hstr;exact hstr);refine⟨r,J,by rw[h3],h4,?_⟩;rw[<-Z5o m key t]at h5;exact h5
end
section
theorem clean_l(R:OA->Nat->Nat->Gh->Prop)(I:Gh)(n:Int)(f:Nat)(s:BA)(a1:OA)(n1 c1:Nat)(a2:OA)(n2 c2:Nat)(w:World)(hi:I.In w)
  (H:∀w,I.In w->Calls prog 69 #[.slice a2 n2 c2] w fun e w'=>∃A N C J,e=.returned (.slice A N C)/\Step Nix I J w w'/\R A N C J):
  Calls prog 24 #[.agg (L2j n f s a1 n1 c1 a2 n2 c2).toArray] w fun e w'=>∃A N C J,e=.returned (V6.agg ⟨5,0,0,⟨#[]⟩,none,0,0,A,N,C⟩)/\Step Nix I J w w'/\R A N C J:=by
 go_enter func24,ntmps24;go_wp2_with fail
 refine(H _ ((hi.alloc _).alloc _)).mono ?_;rintro e w' ⟨A,N,C,J,rfl,st,hr⟩;have q:=st.heap (Q1b (w:=w.alloc _) rfl) (fun x=>x);simp at q;have hJ:J (w.heap.size+1)=none:=(st.old (w.heap.size+1) b0f (fun x=>x)).trans (hi.none om);have ST:=Hd ((((Step.refl (M:=Nix) hi).alloc _).alloc _).trans0 st);have RH:=Hd (setRow_heap _ (w.heap.size+1) _ (L1w A N C).toArray 35 (0,0) q);have HR:=Hd (And.intro hr hJ);clear st hr hJ H;go_wp2_with (refine wpList_store_row rf 35 _ _ rf (w.heap.size+1) (L1w A N C).toArray rf rf 35 _ q sz35 rfl (one6 rfl rfl rfl rfl rfl rfl) ?_)
 refine bT ?_;exact⟨A,N,C,J,rfl,ST.out.setRow HR.out.2 (fun hb=>absurd hb om) _,HR.out.1⟩
theorem clean_m(R:V6->Gh->Prop)(I:Gh)(n:Int)(f:Nat)(s:BA)(a1:OA)(n1 c1:Nat)(a2:OA)(n2 c2:Nat)(w:World)(hi:I.In w)
  (H:∀w,I.In w->Calls prog 70 #[.agg (L1i n f s a1 n1 c1 a2 n2 c2).toArray] w fun e w'=>∃(r:V6) (J:Gh),e=.returned r.agg/\Step Nix I J w w'/\R r J):
  Calls prog 24 #[.agg (L1i n f s a1 n1 c1 a2 n2 c2).toArray] w fun e w'=>∃(r:V6) (J:Gh),e=.returned r.agg/\Step Nix I J w w'/\R r J:=by
 go_enter func24,ntmps24;go_wp2_with fail
 refine(H _ ((hi.alloc _).alloc _)).mono ?_;rintro e w' ⟨r,J,rfl,st,hr⟩;have q:=st.heap (Q1b (w:=w.alloc _) rfl) (fun x=>x);simp at q;have hJ:J (w.heap.size+1)=none:=(st.old (w.heap.size+1) b0f (fun x=>x)).trans (hi.none om);have ST:=Hd ((((Step.refl (M:=Nix) hi).alloc _).alloc _).trans0 st);have RH:=Hd (setRow_heap _ (w.heap.size+1) _ (L0a r).toArray 35 (0,0) q);have HR:=Hd (And.intro hr hJ);clear st hr hJ H;unfold V6.agg;go_wp2_with (refine wpList_store_row rf 35 _ _ rf (w.heap.size+1) (L0a r).toArray rf rf 35 _ q sz35 rfl (one6 rfl rfl rfl rfl rfl rfl) ?_)
 refine bT ?_;exact⟨r,J,rfl,ST.out.setRow HR.out.2 (fun hb=>absurd hb om) _,HR.out.1⟩
end
section
mutual
def Q0f:Tr->List (List PE)
 |.map m=>Q1u m
 |_=>[]
def Q1u:KT->List (List PE)
 |[]=>[]
 |(k,t)::m=>[k]::((Q0f t).map (k::·)++Q1u m)
end
def atT:Tr->List PE->Option Tr
 |t,[]=>some t
 |.map m,k::p=>match findK m k with
  |some u=>atT u p
  |none=>none
 |_,_::_=>none
def Tr.isMap:Tr->Bool
 |.map _=>true
 |_=>false
def Tr.isList:Tr->Bool
 |.list _=>true
 |_=>false
variable{t:Tr}
theorem Q2q(h:t.isMap=true):∃m,t=.map m:=by cases t<;>first|exact⟨_,rfl⟩|cases h

mutual
def Q0d:Tr->Tr->Tr
 |.map ma,.map mb=>.map (Q1x ma ma mb)
 |_,b=>b
def Q1x(ma:KT):KT->KT->KT
 |out,[]=>out
 |out,(k,x)::mb=>Q1x ma (insK out k (match findK ma k with
  |some w=>Q0d w x
  |none=>x)) mb
end
mutual
def Q2d:Tr->Tr->Bool
 |.map ma,b=>match b with
  |.map mb=>Q7l ma mb
  |_=>false
 |.list _,b=>b.isList
 |_,b=>!b.isMap&&!b.isList
def Q7l:KT->KT->Bool
 |[],_=>true
 |(k,t)::m,mb=>(match findK mb k with
  |some u=>Q2d t u
  |none=>true)&&Q7l m mb
end
mutual
def Q1c:Tr->Bool
 |.int n=>decide (-9007199254740992<=n)&&decide (n<=9007199254740992)
 |.flt f=>feq f f
 |.list l=>Z0i l
 |.map m=>Q4u m
 |_=>true
def Z0i:List Tr->Bool
 |[]=>true
 |t::l=>Q1c t&&Z0i l
def Q4u:KT->Bool
 |[]=>true
 |(_,t)::m=>Q1c t&&Q4u m
end
mutual
def nodesT:Tr->Nat
 |.list l=>1+Z3z l
 |.map m=>1+Z3u m
 |_=>1
def Z3z:List Tr->Nat
 |[]=>0
 |t::l=>nodesT t+Z3z l
def Z3u:KT->Nat
 |[]=>0
 |(_,t)::m=>nodesT t+Z3u m
end
mutual
def Q1i:Tr->Bool
 |.null=>false
 |.map m=>Q7f m
 |_=>true
def Q7f:KT->Bool
 |[]=>true
 |(_,t)::m=>Q1i t&&Q7f m
end

mutual
theorem Z4n:∀t:Tr,Q1c t=true->eqT t t=true
 |.null,_=>by simp[eqT]
 |.bool b,_=>by simp[eqT]
 |.int n,_=>by simp[eqT]
 |.flt f,h=>by simpa[eqT,Q1c]using h
 |.str s,_=>by simp[eqT,Q6p]
 |.list l,h=>by rw[eqT];exact X9a l (by simpa[Q1c]using h)
 |.map m,h=>by rw[eqT];exact X8z m (by simpa[Q1c]using h)
theorem X9a:∀l:List Tr,Z0i l=true->eqL l l=true
 |[],_=>by simp[eqL]
 |t::l,h=>by
  simp only[Z0i,Bool.and_eq_true]at h;simp[eqL,Z4n t h.1,X9a l h.2]
theorem X8z:∀m:KT,Q4u m=true->eqM m m=true
 |[],_=>by simp[eqM]
 |(k,t)::m,h=>by
  simp only[Q4u,Bool.and_eq_true]at h;simp[eqM,Z4n t h.1,X8z m h.2,Q6p]
end
variable{m:KT}
theorem X1y(h:Q4u m=true){p:BA×Tr}(hp:p∈m):Q1c p.2=true:=by
 induction m with
 |nil=>cases hp
 |cons q m ih=>
  obtain⟨k,t⟩:=q;simp only[Q4u,Bool.and_eq_true]at h;rcases mem_cons.1 hp with e|e
  ·rw[e];exact h.1
  ·exact ih h.2 e
theorem Z8c:∀(p:List PE) {t u:Tr},Q1c t=true->atT t p=some u->Q1c u=true
 |[],t,u,h,e=>by cases t<;>(cases e;exact h)
 |k::p,.map m,u,h,e=>by
  unfold atT at e;cases hf:findK m k with
  |none=>rw[hf]at e;cases e
  |some w=>
   rw[hf]at e;exact Z8c p (X1y (by simpa[Q1c]using h) (Q0o hf)) e
 |k::p,.null,u,h,e=>by cases e
 |k::p,.bool _,u,h,e=>by cases e
 |k::p,.int _,u,h,e=>by cases e
 |k::p,.flt _,u,h,e=>by cases e
 |k::p,.str _,u,h,e=>by cases e
 |k::p,.list _,u,h,e=>by cases e
theorem Q7g(t:Tr):atT t []=some t:=by cases t<;>rfl
theorem Q9f(m:KT)(k:PE)(p:List PE):atT (.map m) (k::p)=(findK m k).bind fun u=>atT u p:=by
 show(match findK m k with|some u=>atT u p|none=>none)=_;cases findK m k<;>rfl
theorem Z2j(h:t.isMap=false)(k:PE)(p:List PE):atT t (k::p)=none:=by
 cases t<;>first|rfl|cases h

theorem Q7x:∀(m:KT) (p:List PE),p∈Q1u m<->∃k t q,(k,t)∈m/\p=k::q/\(q=[]\/q∈Q0f t)
 |[],p=>by simp[Q1u]
 |(k,t)::m,p=>by
  rw[Q1u,mem_cons,mem_append,mem_map,Q7x m p];constructor
  ·rintro(h|⟨q,hq,rfl⟩|⟨k',t',q,h,e,hq⟩)
   ·exact⟨k,t,[],mem_cons_self ..,h,.inl rfl⟩
   ·exact⟨k,t,q,mem_cons_self ..,rfl,.inr hq⟩
   ·exact⟨k',t',q,mem_cons_of_mem _ h,e,hq⟩
  ·rintro⟨k',t',q,h,e,hq⟩;rcases mem_cons.1 h with x|x
   ·cases x;rcases hq with y|y
    ·subst y;exact .inl e
    ·exact .inr (.inl ⟨q,y,e.symm⟩)
   ·exact .inr (.inr ⟨k',t',q,x,e,hq⟩)
theorem Q4q:∀(p:List PE) {t:Tr},t.ok->(p∈Q0f t<->p≠[]/\(atT t p).isSome=true)
 |[],t,_=>by
  simp only[ne_eq,not_true_eq_false,false_and,iff_false];cases t<;>simp[Q0f];intro h;obtain⟨_,_,_,_,e,_⟩:=(Q7x _ _).1 h;cases e
 |k::p,t,h=>by
  by_cases hm:t.isMap=true
  ·obtain⟨m,rfl⟩:=Q2q hm;rw[Q9f,Q0f,Q7x];simp only[ne_eq,reduceCtorEq,not_false_eq_true,true_and];constructor
   ·rintro⟨k',t',q,h1,e,hq⟩;cases e;rw[Q3g h.sorted h1];simp only[Option.bind_some];rcases hq with y|y
    ·subst y;rw[Q7g];rfl
    ·exact((Q4q p (h.field h1)).1 y).2
   ·intro h1;cases hf:findK m k with
    |none=>rw[hf]at h1;cases h1
    |some u=>
     rw[hf]at h1;refine⟨k,u,p,Q0o hf,rfl,?_⟩;by_cases hp:p=[]
     ·exact .inl hp
     ·exact .inr ((Q4q p (h.field (Q0o hf))).2 ⟨hp,h1⟩)
  ·have hm':t.isMap=false:=by simpa using hm
   rw[Z2j hm'];cases t<;>simp[Q0f,Tr.isMap]at hm⊢
theorem X3q(hs:Q0n m)(h:∀p,p∈m->(Q0f p.2).Nodup)(ho:∀p,p∈m->Tr.ok p.2):(Q1u m).Nodup:=by
 induction m with
 |nil=>exact List.nodup_nil
 |cons q m ih=>
  obtain⟨k,t⟩:=q;obtain⟨h1,h2⟩:=List.pairwise_cons.1 hs;have hne:∀{p},p∈Q1u m->∀q,p≠k::q:=by
   intro p hp q e;obtain⟨k',t',q',h3,h4,_⟩:=(Q7x m p).1 hp;rw[h4]at e;cases e;have:=h1 _ h3;rw[Q2r]at this;cases this
  rw[Q1u];refine List.nodup_cons.2 ⟨fun hx=>?_,List.nodup_append.2 ⟨List.Pairwise.map _ (fun a b (h:a≠b)=>by simpa using h) (h (k,t) (mem_cons_self ..)),ih h2 (fun p hp=>h p (mem_cons_of_mem _ hp)) (fun p hp=>ho p (mem_cons_of_mem _ hp)),fun x hx y hy e=>?_⟩⟩
  ·rcases mem_append.1 hx with y|y
   ·obtain⟨q,hq,e⟩:=mem_map.1 y;cases e;exact((Q4q [] (ho (k,t) (mem_cons_self ..))).1 hq).1 rfl
   ·exact hne y [] rfl
  ·subst e;obtain⟨q,_,rfl⟩:=mem_map.1 hx;exact hne hy q rfl
theorem Q8x(h:t.ok):(Q0f t).Nodup:=by
 induction h with
 |map m hs h ih=>rw[Q0f];exact X3q hs ih h
 |_=>simp[Q0f]

theorem Z0z(ma:KT):∀(out mb:KT),Q0n out->Q0n mb->∀k,
  Q0n (Q1x ma out mb)/\findK (Q1x ma out mb) k=match findK mb k with
  |some y=>some (match findK ma k with
   |some w=>Q0d w y
   |none=>y)
  |none=>findK out k
 |out,[],ho,_,k=>by rw[Q1x];exact⟨ho,rfl⟩
 |out,(l,x)::mb,ho,hb,k=>by
  obtain⟨h1,h2⟩:=List.pairwise_cons.1 hb;rw[Q1x];obtain⟨i1,i2⟩:=Z0z ma (insK out l (match findK ma l with
   |some w=>Q0d w x
   |none=>x)) mb (Q2v ho l _).1 h2 k
  refine⟨i1,?_⟩;rw[i2,Q0k];by_cases e:l=k
  ·subst e;have hn:findK mb l=none:=Z7t.2 fun v hv=>by have:=h1 _ hv;rw[Q2r]at this;cases this
   rw[hn,if_pos rfl,Q4y _ _ _ ho,if_pos rfl]
  ·rw[if_neg e];cases hf:findK mb k with
   |some y=>rfl
   |none=>simp only;rw[Q4y _ _ _ ho,if_neg (Ne.symm e)]
theorem Q7p{ma mb:KT}(ha:Q0n ma)(hb:Q0n mb)(k:PE):findK (Q1x ma ma mb) k=match findK ma k,findK mb k with
  |some x,some y=>some (Q0d x y)
  |some x,none=>some x
  |none,o=>o:=by
 rw[(Z0z ma ma mb ha hb k).2];cases findK mb k<;>cases findK ma k<;>rfl
mutual
theorem Z1q:∀(a b:Tr),a.ok->b.ok->(Q0d a b).ok
 |.map ma,.map mb,ha,hb=>by
  rw[Q0d];exact Z6v ma ma mb ha.sorted (fun p hp=>ha.field hp) (fun p hp=>ha.field hp) (fun p hp=>hb.field hp)
 |.map _,.null,_,hb=>by simpa[Q0d]using hb
 |.map _,.bool _,_,hb=>by simpa[Q0d]using hb
 |.map _,.int _,_,hb=>by simpa[Q0d]using hb
 |.map _,.flt _,_,hb=>by simpa[Q0d]using hb
 |.map _,.str _,_,hb=>by simpa[Q0d]using hb
 |.map _,.list _,_,hb=>by simpa[Q0d]using hb
 |.null,b,_,hb=>by simpa[Q0d]using hb
 |.bool _,b,_,hb=>by simpa[Q0d]using hb
 |.int _,b,_,hb=>by simpa[Q0d]using hb
 |.flt _,b,_,hb=>by simpa[Q0d]using hb
 |.str _,b,_,hb=>by simpa[Q0d]using hb
 |.list _,b,_,hb=>by simpa[Q0d]using hb
theorem Z6v:∀(ma out mb:KT),Q0n out->(∀p,p∈out->Tr.ok p.2)->(∀p,p∈ma->Tr.ok p.2)->(∀p,p∈mb->Tr.ok p.2)->Tr.ok (.map (Q1x ma out mb))
 |ma,out,[],hs,ho,_,_=>by rw[Q1x];exact .map _ hs ho
 |ma,out,(k,x)::mb,hs,ho,ha,hb=>by
  rw[Q1x];have hx:x.ok:=hb (k,x) (mem_cons_self ..);refine Z6v ma _ mb (Q2v hs k _).1 (fun p hp=>?_) ha (fun p hp=>hb p (mem_cons_of_mem _ hp));rcases(Q2v hs k _).2 p hp with e|e
  ·rw[e];show Tr.ok (match findK ma k with|some w=>Q0d w x|none=>x);cases hf:findK ma k with
   |none=>exact hx
   |some w=>exact Z1q w x (ha _ (Q0o hf)) hx
  ·exact ho p e
end
theorem Q5a:∀{ma mb:KT},Q7l ma mb=true->∀{k:PE} {x y:Tr},findK ma k=some x->findK mb k=some y->Q2d x y=true
 |[],_,_,_,_,_,h,_=>by simp[findK]at h
 |(l,t)::ma,mb,h,k,x,y,hx,hy=>by
  simp only[Q7l,Bool.and_eq_true]at h;rw[Q0k]at hx;by_cases e:l=k
  ·subst e;rw[if_pos rfl]at hx;cases hx;have:=h.1;rw[hy]at this;exact this
  ·rw[if_neg e]at hx;exact Q5a h.2 hx hy
theorem Z8p:∀(p:List PE) {a b:Tr},a.ok->b.ok->Q2d a b=true->atT (Q0d a b) p=match atT a p,atT b p with
  |some x,some y=>some (Q0d x y)
  |some x,none=>some x
  |none,o=>o
 |[],a,b,_,_,_=>by rw[Q7g,Q7g,Q7g]
 |k::p,a,b,ha,hb,h=>by
  by_cases hm:a.isMap=true
  ·obtain⟨ma,rfl⟩:=Q2q hm;cases b with
   |map mb=>
    rw[Q0d,Q9f,Q9f,Q9f,Q7p ha.sorted hb.sorted];have hal:Q7l ma mb=true:=by simpa[Q2d]using h
    cases h1:findK ma k with
    |none=>cases h2:findK mb k<;>rfl
    |some x=>
     cases h2:findK mb k with
     |none=>simp only[Option.bind_some,Option.bind_none];cases atT x p<;>rfl
     |some y=>exact Z8p p (ha.field (Q0o h1)) (hb.field (Q0o h2)) (Q5a hal h1 h2)
   |_=>simp[Q2d]at h
  ·have hm':a.isMap=false:=by simpa using hm
   have hb':b.isMap=false:=by
    cases a<;>cases b<;>simp[Q2d,Tr.isMap,Tr.isList]at h hm'⊢
   have e:Q0d a b=b:=by cases a<;>first|(simp[Tr.isMap]at hm';done)|simp[Q0d]
   rw[e,Z2j hm',Z2j hb']
theorem X9c:∀(p:List PE) {a b x y:Tr},Q2d a b=true->atT a p=some x->atT b p=some y->Q2d x y=true
 |[],a,b,x,y,h,hx,hy=>by rw[Q7g]at hx hy;cases hx;cases hy;exact h
 |k::p,a,b,x,y,h,hx,hy=>by
  cases a with
  |map ma=>
   cases b with
   |map mb=>
    rw[Q9f]at hx hy;have hal:Q7l ma mb=true:=by simpa[Q2d]using h
    cases h1:findK ma k with
    |none=>rw[h1]at hx;cases hx
    |some u=>
     cases h2:findK mb k with
     |none=>rw[h2]at hy;cases hy
     |some v=>
      rw[h1]at hx;rw[h2]at hy;exact X9c p (Q5a hal h1 h2) hx hy
   |_=>simp[Q2d]at h
  |_=>cases hx
def Q2y(a b:Tr)(p:List PE):Bool:=match atT a p,atT b p with
 |some x,some y=>!x.isMap&&!eqT x y
 |_,_=>false
theorem Z9d{a b:Tr}(ha:a.ok)(hb:b.ok)(hal:Q2d a b=true)(ho:Q1c a=true)(p:List PE):Q2y a (Q0d a b) p=Q2y a b p:=by
 unfold Q2y;rw[Z8p p ha hb hal];cases h1:atT a p with
 |none=>rfl
 |some x=>
  cases h2:atT b p with
  |none=>simp only;rw[Z4n x (Z8c p ho h1)];simp
  |some y=>
   have:=X9c p hal h1 h2;simp only;cases hx:x.isMap with
   |true=>rfl
   |false=>
    have e:Q0d x y=y:=by cases x<;>first|(simp[Tr.isMap]at hx;done)|simp[Q0d]
    rw[e]
end
section
def Q0u(I:Gh)(a:OA)(cs:List Value):Prop:=
 (a=none/\cs=[])\/∃b o,a=some ⟨b,o,none⟩/\∀(j:Nat) v,cs[j]?=some v->I.cell ⟨b,o+j,none⟩ v
variable{cs:List Value}{a:OA}{J:Gh}
theorem Q0u.mono(h:Q0u I a cs)(l:I.le J):Q0u J a cs:=by
 rcases h with h|⟨b,o,h,k⟩
 ·exact .inl h
 ·exact .inr ⟨b,o,h,fun i s e=>(k i s e).mono l⟩
variable{n size:Nat}
theorem Q0u.reads(h:Q0u I a cs)(hl:cs.length=n*size)(hs:0<size)(hi:I.In w):Q4n w w.heap.size size a n cs:=by
 refine⟨hl,fun hn=>?_⟩;have h0:0<cs.length:=by rw[hl];exact Nat.mul_pos hn hs
 rcases h with⟨_,rfl⟩|⟨b,o,rfl,k⟩
 ·simp at h0
 ·refine⟨_,rfl,(k 0 _ (List.getElem?_eq_getElem h0)).lt hi,fun j u hu=>?_⟩;have ha:(Addr.add ⟨b,o,none⟩ j)=⟨b,o+j,none⟩:=by unfold Addr.add;split<;>simp_all
  rw[ha];exact(k j u hu).at hi
variable{v:Value}
theorem X4n{base:Nat}{e:TypeId}{xs:List Value}(h:w.ownsRow base e size v n xs)(hj:∀g,v.ownBlock=some g->J g=w.heap[g]?):
  ∃a c,v=.slice a n c/\n<=c/\c<=maxLen/\Q0u J a xs:=by
 obtain⟨hl,⟨rfl,rfl⟩|⟨g,cap,cur,rfl,_,hh,hn,hm,hc,ht⟩⟩:=h
 ·have:xs=[]:=List.length_eq_zero_iff.1 b2n;exact e1j
 ·refine⟨_,cap,rfl,hn,hm,.inr ⟨g,0,rfl,fun i s hs=>⟨_,_,_,(hj g rfl).trans hh,rfl,?_⟩⟩⟩;rw[Nat.zero_add];exact Z2e ht hs
theorem X6w{α:Type}{f:α->List Value}(hf:∀a,(f a).length=n){xs:List α}{i:Nat}{a:α}(h:xs[i]?=some a){j:Nat}(hj:j<n):(xs.flatMap f)[i*n+j]?=(f a)[j]?:=by
 induction xs generalizing i with
 |nil=>simp at h
 |cons x xs ih=>
  rw[List.flatMap_cons];cases i with
  |zero=>
   simp at h;subst h;rw[List.getElem?_append_left (by rw[hf];omega)];simp
  |succ i=>
   rw[List.getElem?_append_right (by rw[hf,Nat.succ_mul];omega),<-ih b0b];congr 1;rw[hf,Nat.succ_mul];omega
theorem Z2a{α:Type}{f:α->List Value}(hf:∀a,(f a).length=n)(xs:List α):(xs.flatMap f).length=xs.length*n:=by
 induction xs with
 |nil=>simp
 |cons x xs ih=>rw[List.flatMap_cons,List.length_append,ih,hf,List.length_cons,Nat.succ_mul];omega
def Q0s(s:PE):List Value:=[.int .i64 0,.string s,sn,sn,.int .i64 0,.int .i64 0,.float .f64 0,.string ⟨#[]⟩,sn,sn,.int .i64 0]
theorem Q3n(s:PE):(Q0s s).length=11:=rfl
variable{p:List PE}
theorem Z8r:∀u∈p.flatMap Q0s,u.oneCell'=true:=by
 intro u hu;obtain⟨s,_,h⟩:=List.mem_flatMap.1 hu;simp[Q0s]at h;rcases h with rfl|rfl|rfl|rfl|rfl|rfl|rfl|rfl<;>rfl
def Q2l(I:Gh)(v:Value)(p:List PE):Prop:=∃(a:OA) (c:Nat),v=.slice a p.length c/\p.length<=c/\c<=maxLen/\Q0u I a (p.flatMap Q0s)
theorem Q2l.mono(h:Q2l I v p)(l:I.le J):Q2l J v p:=by
 obtain⟨a,c,e,h1,h2,h3⟩:=h;exact⟨a,c,e,h1,h2,h3.mono l⟩
def Q2i(I:Gh)(v:Value)(ps:List (List PE)):Prop:=∃(a:OA) (c:Nat) (vs:List Value),v=.slice a ps.length c/\ps.length<=c/\c<=maxLen/\Q0u I a vs/\All2 (Q2l I) vs ps
theorem Q2i.mono{ps:List (List PE)}(h:Q2i I v ps)(l:I.le J):Q2i J v ps:=by
 obtain⟨a,c,vs,e,h1,h2,h3,h4⟩:=h;exact⟨a,c,vs,e,h1,h2,h3.mono l,h4.imp fun _ _ k=>k.mono l⟩
end
section
theorem sz173:(prog.info? 173).map (·.size)=some 11:=by kernel_rfl
def Q4p(s:PE):Value:=.agg #[.int .i64 0,.string s,sn,sn,.int .i64 0,.int .i64 0,.float .f64 0,.string ⟨#[]⟩,sn,sn,.int .i64 0]
theorem one11(s:PE):((L0i s).toArray:Array Value).all (fun x=>x.oneCell')=true:=by simp[Value.oneCell']
theorem X5q(I:Gh)(s:BA)(w:World)(hi:I.In w):Calls prog 71 #[.string s] w (Got Nix I w (Q4p s)):=by
 go_enter func71,ntmps71;have q:=heap_alloc_new w (.cells L1e.toArray 173);have RH:=Hd (setRow_heap _ w.heap.size _ (L0i s).toArray 173 (0,0) q);go_wp2_with (refine wpList_store_row rf 173 _ _ rf w.heap.size (L0i s).toArray rf rf 173 _ q sz173 rfl (one11 s) ?_)
 refine bodyPost_ret (results_cell_row rfl _ _ _ _ _ _ _ rfl RH.out underlying173 rfl sz173) rfl ?_;exact⟨rfl,((Step.refl hi).alloc _).setRow (hi.none (Nat.le_refl _)) (fun hb=>absurd hb om) _⟩
end
end Go.Proofs.YtbmklgemmjgjfaaGreat
