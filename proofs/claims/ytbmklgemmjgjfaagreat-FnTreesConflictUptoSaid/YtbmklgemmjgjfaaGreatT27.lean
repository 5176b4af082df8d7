/- Part 27: Zpp, Zqq, Joi. -/
import Derived.ReadAgain
import Derived.ChangeSame
import Derived.ChangeMaps5
import Derived.Test.YtbmklgemmjgjfaaGreatT26
namespace Go.Proofs.YtbmklgemmjgjfaaGreat
open List (cons_append nil_append)
open Go.RowKit Go.Maps Tryz
set_option linter.unusedVariables false
set_option linter.unusedSimpArgs false
set_option maxRecDepth 100000
set_option maxHeartbeats 16000000
variable{Inv:(BA->Bool)->Gh->List Blk->List Rw->Prop}{R:List Rw}{L:List Blk}{ml mr:KV}{ro lo:Option Nat}{F al:Nat}{J:Gh}{caps:Array Value}
section
def Z3h(F:Nat)(caps:Array Value)(J:Gh)(ml mr:KV)(Inv:(BA->Bool)->Gh->List Blk->List Rw->Prop):Prop:=
 ∀left K L R s lb rb,J.le K->Inv left K L R->s.size<=maxLen->left s=true->(findK ml s).isSome=true\/(findK mr s).isSome=true->
  Ac F (#[.string s,vif (findK ml s) lb,vif (findK mr s) rb]++caps) K (vblk (findK ml s) lb++(vblk (findK mr s) rb++L)) R fun u K2 L2 R2=>u=.bool true/\∃L3,L2=vblk (findK ml s) lb++(vblk (findK mr s) rb++L3)/\Inv (fun z=>left z&&!decide (z=s)) K2 L3 R2
def zAll(ml mr:KV):BA->Bool:=fun z=>(findK ml z).isSome||(findK mr z).isSome
def Z1b(ml mr:KV):BA->Bool:=fun z=>(findK mr z).isSome&&!(findK ml z).isSome
variable{ba bl br bf:Nat}
theorem X8n{r1:Nat}(hF:∀(args:Array Value) (w:World),(callFunc F args).run prog w=.ok (.enter F args) w)(hZ:Z3h F caps J ml mr Inv)(hl:J.map r1 ml)(hr:MapO J ro mr)(hakl:∀s v,findK ml s=some v->∃k,AK v k)(hakr:∀s v,findK mr s=some v->∃k,AK v k)(hI:Inv (zAll ml mr) J L R):
  Ac 513 #[.map (some r1),.iface 340 (pt al),.func (.func 522) #[] (L1o br ba bf).toArray] J (zB ba bl br bf al (some r1) ro (.func (.func F) #[] caps)++L) R
   fun u K L' R'=>u=.bool true/\∃L3,L'=zB ba bl br bf al (some r1) ro (.func (.func F) #[] caps)++L3/\Inv (Z1b ml mr) K L3 R':=by
 refine(Z2k 522 (L1o br ba bf).toArray (ad al 0) r1 ml J (zB ba bl br bf al (some r1) ro (.func (.func F) #[] caps)++L) R hl (Go.MuLone.run_callFunc_enter func522 kr rfl)
  hakl (fun left K L' R'=>∃L3,L'=zB ba bl br bf al (some r1) ro (.func (.func F) #[] caps)++L3/\Inv (fun z=>left z||Z1b ml mr z) K L3 R') ⟨L,rfl,?_⟩ ?_).mono ?_
 ·have e:(fun z=>(findK ml z).isSome||Z1b ml mr z)=zAll ml mr:=funext fun z=>by unfold Z1b zAll;cases(findK ml z).isSome<;>simp
  rw[e];exact hI
 ·rintro left K L' R' s v vb hle ⟨L3,rfl,hI'⟩ hs hls hf;refine(zclo1_s (ml:=ml) (Post:=fun K2 L2 R2=>Inv (fun z=>(left z&&!decide (z=s))||Z1b ml mr z) K2 L2 R2) hF (hr.mono hle) hs (hakr s) fun rb=>?_).mono ?_
  ·have h:=hZ (fun z=>left z||Z1b ml mr z) K L3 R' s vb rb hle hI' hs (by simp[hls]) (.inl (by rw[hf];rfl));rw[hf]at h;refine h.mono ?_;rintro u K2 L2 R2 _ ⟨hu,L4,rfl,hp⟩;refine⟨hu,L4,rfl,?_⟩;have e:(fun z=>(left z||Z1b ml mr z)&&!decide (z=s))=fun z=>(left z&&!decide (z=s))||Z1b ml mr z:=funext fun z=>by
    by_cases hz:z=s
    ·subst hz;simp[Z1b,hf]
    ·simp[hz]
   rw[e]at hp;exact hp
  ·rintro u K2 L2 R2 _ ⟨hu,L4,rfl,hp⟩;exact⟨hu,_,rfl,L4,rfl,hp⟩
 ·rintro u K L' R' _ ⟨hu,left,hl0,L3,rfl,hp⟩;have e:(fun z=>left z||Z1b ml mr z)=Z1b ml mr:=funext fun z=>by rw[hl0 z];rfl
  rw[e]at hp;exact⟨hu,L3,rfl,hp⟩
theorem X8i{r2:Nat}(hF:∀(args:Array Value) (w:World),(callFunc F args).run prog w=.ok (.enter F args) w)(hZ:Z3h F caps J ml mr Inv)(hr:J.map r2 mr)(hl:MapO J lo ml)(hakl:∀s v,findK ml s=some v->∃k,AK v k)(hakr:∀s v,findK mr s=some v->∃k,AK v k)(hI:Inv (Z1b ml mr) J L R):
  Ac 513 #[.map (some r2),.iface 340 (pt al),.func (.func 523) #[] #[pt bl,pt bf]] J (zB ba bl br bf al lo (some r2) (.func (.func F) #[] caps)++L) R
   fun u K L' R'=>u=.bool true/\∃L3,L'=zB ba bl br bf al lo (some r2) (.func (.func F) #[] caps)++L3/\Inv (fun _=>false) K L3 R':=by
 refine(Z2k 523 #[pt bl,pt bf] (ad al 0) r2 mr J (zB ba bl br bf al lo (some r2) (.func (.func F) #[] caps)++L) R hr (Go.MuLone.run_callFunc_enter func523 kr rfl)
  hakr (fun left K L' R'=>∃L3,L'=zB ba bl br bf al lo (some r2) (.func (.func F) #[] caps)++L3/\Inv (fun z=>left z&&!(findK ml z).isSome) K L3 R') ⟨L,rfl,hI⟩ ?_).mono ?_
 ·rintro left K L' R' s v vb hle ⟨L3,rfl,hI'⟩ hs hls hf;have e0:∀z,z=s->(findK ml s).isSome=true->(left z&&!(findK ml z).isSome)=false:=by
   rintro z rfl h;simp[h]
  refine(zclo2_s (ml:=ml) (mr:=mr) (Post:=fun K2 L2 R2=>Inv (fun z=>(left z&&!decide (z=s))&&!(findK ml z).isSome) K2 L2 R2) hF (hl.mono hle) hs (fun hn=>?_) fun hn=>?_).mono ?_
  ·have h:=hZ (fun z=>left z&&!(findK ml z).isSome) K L3 R' s 0 vb hle hI' hs (by simp[hls,hn]) (.inr (by rw[hf];rfl));rw[hf,hn]at h;refine h.mono ?_;rintro u K2 L2 R2 _ ⟨hu,L4,rfl,hp⟩;refine⟨hu,L4,rfl,?_⟩;have e:(fun z=>(left z&&!(findK ml z).isSome)&&!decide (z=s))=fun z=>(left z&&!decide (z=s))&&!(findK ml z).isSome:=funext fun z=>by
    cases left z<;>cases(findK ml z).isSome<;>cases decide (z=s)<;>rfl
   rw[e]at hp;exact hp
  ·have e:(fun z=>(left z&&!decide (z=s))&&!(findK ml z).isSome)=fun z=>left z&&!(findK ml z).isSome:=funext fun z=>by
    by_cases hz:z=s
    ·subst hz;simp[hn]
    ·simp[hz]
   rw[e];exact hI'
  ·rintro u K2 L2 R2 _ ⟨hu,L4,rfl,hp⟩;exact⟨hu,_,rfl,L4,rfl,hp⟩
 ·rintro u K L' R' _ ⟨hu,left,hl0,L3,rfl,hp⟩;have e:(fun z=>left z&&!(findK ml z).isSome)=fun _=>false:=funext fun z=>by rw[hl0 z];rfl
  rw[e]at hp;exact⟨hu,L3,rfl,hp⟩
theorem Z3h.mono{K:Gh}(h:Z3h F caps J ml mr Inv)(l:J.le K):Z3h F caps K ml mr Inv:=fun left K2 L R s lb rb hle=>h left K2 L R s lb rb (gT l hle)
theorem X5h(hF:∀(args:Array Value) (w:World),(callFunc F args).run prog w=.ok (.enter F args) w)(hZ:Z3h F caps J ml mr Inv)(hl:MapO J lo ml)(hr:MapO J ro mr)(hakl:∀s v,findK ml s=some v->∃k,AK v k)(hakr:∀s v,findK mr s=some v->∃k,AK v k)(hI:Inv (zAll ml mr) J L R):
  Ac 520 #[.iface 340 (pt al),mapV lo,mapV ro,(.func (.func F) #[] caps)] J L R fun u K L' R'=>u=.bool true/\Inv (fun _=>false) K L' R':=by
 intro M I w W S;have HM:=Hd (And.intro hl hr);cases lo with
 |none=>
  obtain rfl:ml=[]:=hl;have e0:zAll [] mr=Z1b [] mr:=funext fun z=>by simp[zAll,Z1b,findK]
  rw[e0]at hI;cases ro with
  |none=>
   obtain rfl:mr=[]:=hr;have HI:=Hd hI;clear hF hZ hakl hakr hI e0;simp only[mapV_n];go_enter func520,ntmps520;go_wp2_with (first|refine wk ?_|refine wn ?_;clear S;(first|(fail_if_success revert ba);intro ba W S|(fail_if_success revert bl);intro bl W S|(fail_if_success revert br);intro br W S|intro bf W S))
   exact e1m
  |some r2=>
   have H2:=fun ba bl br bf=>X8i (ba:=ba) (bl:=bl) (br:=br) (bf:=bf) (al:=al) (lo:=none) hF hZ hr rfl hakl hakr hI;have H2:=Hd (And.intro hI H2);clear hF hZ hakl hakr hI e0;simp only[mapV_n,mapV_s];cases her:((mr.length:Int)==0)
   ·go_enter func520,ntmps520;go_wp2_with (first|go_at_call 506;refine(Q1z r2 mr _ ((show J.map r2 mr from HM.out.2).at S.out.inw)).mono ?_;rintro e W2 ⟨rfl,rfl⟩|refine wk ?_|refine wn ?_;clear S;(first|(fail_if_success revert ba);intro ba W S|(fail_if_success revert bl);intro bl W S|(fail_if_success revert br);intro br W S|intro bf W S))
    have hcall:=H2.out.2 ba bl br bf;simp only[zB,mapV_s,mapV_n,cons_append,nil_append]at hcall;refine Q0a S hcall ?_;clear hcall;rintro r5 K5 L5 R5 W' hle5 ⟨rfl,L3,rfl,hpost⟩ S2;clear S;have S:=S2;clear S2;replace S:=sa S;go_wp2_with (refine wk ?_)
    go_ret;exact ap hle5 ⟨rfl,hpost⟩ (keep S)
   ·have hmr:mr=[]:=List.eq_nil_of_length_eq_zero (by simpa using her);have HI:=Hd (show Inv (fun _=>false) J L R by
     have h:=H2.out.1;rw[hmr]at h;exact h)
    clear hmr;go_enter func520,ntmps520;go_wp2_with (first|go_at_call 506;refine(Q1z r2 mr _ ((show J.map r2 mr from HM.out.2).at S.out.inw)).mono ?_;rintro e W2 ⟨rfl,rfl⟩|refine wk ?_|refine wn ?_;clear S;(first|(fail_if_success revert ba);intro ba W S|(fail_if_success revert bl);intro bl W S|(fail_if_success revert br);intro br W S|intro bf W S))
    exact e1m
 |some r1=>
  cases ro with
  |none=>
   obtain rfl:mr=[]:=hr;have H1:=fun ba bl br bf=>X8n (ba:=ba) (bl:=bl) (br:=br) (bf:=bf) (al:=al) (ro:=none) hF hZ hl rfl hakl hakr hI;have H1:=Hd (And.intro hI H1);clear hF hZ hakl hakr hI;simp only[mapV_n,mapV_s];cases hel:((ml.length:Int)==0)
   ·go_enter func520,ntmps520;go_wp2_with (first|go_at_call 506;refine(Q1z r1 ml _ ((show J.map r1 ml from HM.out.1).at S.out.inw)).mono ?_;rintro e W2 ⟨rfl,rfl⟩|refine wk ?_|refine wn ?_;clear S;(first|(fail_if_success revert ba);intro ba W S|(fail_if_success revert bl);intro bl W S|(fail_if_success revert br);intro br W S|intro bf W S))
    have hcall:=H1.out.2 ba bl br bf;simp only[zB,mapV_s,mapV_n,cons_append,nil_append]at hcall;refine Q0a S hcall ?_;clear hcall;rintro r5 K5 L5 R5 W' hle5 ⟨rfl,L3,rfl,hpost⟩ S2;clear S;have S:=S2;clear S2;replace S:=sa S;go_wp2_with (refine wk ?_)
    go_ret;exact ap hle5 ⟨rfl,(show Inv (fun _=>false) _ _ _ from hpost)⟩ (keep S)
   ·have hml:ml=[]:=List.eq_nil_of_length_eq_zero (by simpa using hel);have HI:=Hd (show Inv (fun _=>false) J L R by
     have h:=H1.out.1;rw[hml]at h;exact h)
    clear hml;go_enter func520,ntmps520;go_wp2_with (first|go_at_call 506;refine(Q1z r1 ml _ ((show J.map r1 ml from HM.out.1).at S.out.inw)).mono ?_;rintro e W2 ⟨rfl,rfl⟩|refine wk ?_|refine wn ?_;clear S;(first|(fail_if_success revert ba);intro ba W S|(fail_if_success revert bl);intro bl W S|(fail_if_success revert br);intro br W S|intro bf W S))
    exact e1m
  |some r2=>
   have H1:=fun ba bl br bf=>X8n (ba:=ba) (bl:=bl) (br:=br) (bf:=bf) (al:=al) (ro:=some r2) hF hZ hl hr hakl hakr hI;have H2:∀ba bl br bf K L3 R3,J.le K->Inv (Z1b ml mr) K L3 R3->_:=fun ba bl br bf K L3 R3 hle h=>X8i (J:=K) (L:=L3) (R:=R3) (ba:=ba) (bl:=bl) (br:=br) (bf:=bf) (al:=al) (lo:=some r1) hF (hZ.mono hle) (Gh.map.mono hr hle) (Gh.map.mono hl hle) hakl hakr h;have H1:=Hd (nd3 hI H1 H2);clear hF hZ hakl hakr hI H2;simp only[mapV_s];cases hel:((ml.length:Int)==0)<;>cases her:((mr.length:Int)==0);iterate 3 (focus (
    go_enter func520,ntmps520
    go_wp2_with (first|go_at_call 506;refine(Q1z r1 ml _ ((show J.map r1 ml from HM.out.1).at S.out.inw)).mono ?_;rintro e W2 ⟨rfl,rfl⟩|go_at_call 506;refine(Q1z r2 mr _ ((show J.map r2 mr from HM.out.2).at S.out.inw)).mono ?_;rintro e W2 ⟨rfl,rfl⟩|refine wk ?_|refine wn ?_;clear S;(first|(fail_if_success revert ba);intro ba W S|(fail_if_success revert bl);intro bl W S|(fail_if_success revert br);intro br W S|intro bf W S))
    have hcall:=H1.out.2.1 ba bl br bf
    simp only[zB,mapV_s,mapV_n,cons_append,nil_append]at hcall
    refine Q0a S hcall ?_
    clear hcall
    rintro r5 K5 L5 R5 W' hle5 ⟨rfl,L3,rfl,hpost⟩ S2
    clear S
    have S:=S2
    clear S2
    replace S:=sa S
    go_wp2_with (refine wk ?_)
    have hcall:=H1.out.2.2 ba bl br bf _ _ _ hle5 hpost
    simp only[zB,mapV_s,mapV_n,cons_append,nil_append]at hcall
    refine Q0a S hcall ?_
    clear hcall
    rintro r5 K5 L5 R5 W' hle6 ⟨rfl,L4,rfl,hpost2⟩ S2
    clear S
    have S:=S2
    clear S2
    replace S:=sa S
    go_wp2_with (refine wk ?_)
    go_ret
    exact ap (gT hle5 hle6) ⟨rfl,hpost2⟩ (keep S)))
   ·have hml:ml=[]:=List.eq_nil_of_length_eq_zero (by simpa using hel);have hmr:mr=[]:=List.eq_nil_of_length_eq_zero (by simpa using her);have HI:=Hd (show Inv (fun _=>false) J L R by
     have h:=H1.out.1;rw[hml,hmr]at h;exact h)
    clear hml hmr;go_enter func520,ntmps520;go_wp2_with (first|go_at_call 506;refine(Q1z r1 ml _ ((show J.map r1 ml from HM.out.1).at S.out.inw)).mono ?_;rintro e W2 ⟨rfl,rfl⟩|go_at_call 506;refine(Q1z r2 mr _ ((show J.map r2 mr from HM.out.2).at S.out.inw)).mono ?_;rintro e W2 ⟨rfl,rfl⟩|refine wk ?_|refine wn ?_;clear S;(first|(fail_if_success revert ba);intro ba W S|(fail_if_success revert bl);intro bl W S|(fail_if_success revert br);intro br W S|intro bf W S))
    exact e1m
end
section
theorem z2n{P:Prop}(h:P:=by
 refine Q0a S HC.out ?_;rintro r5 K5 L5 R5 W' hle5 ⟨rfl,hpost⟩ S2;have hpost:=Hd hpost;clear S;have S:=S2;clear S2;go_wp2_with fail
 go_ret;exact ap hle5 ⟨rfl,hpost.out⟩ (keep S)):P:=h
theorem dzip_s(hF:∀(args:Array Value) (w:World),(callFunc F args).run prog w=.ok (.enter F args) w)(hZ:Z3h F caps J ml mr Inv)(hl:MapO J lo ml)(hr:MapO J ro mr)(hakl:∀s v,findK ml s=some v->∃k,AK v k)(hakr:∀s v,findK mr s=some v->∃k,AK v k)(hI:Inv (zAll ml mr) J L R):Ac 519 #[.iface 340 (pt al),mapV lo,mapV ro,.int .i64 0,(.func (.func F) #[] caps)] J L R fun u K L' R'=>u=.bool true/\Inv (fun _=>false) K L' R':=by
 intro M I w W S;have HC:=Hd (X5h (al:=al) hF hZ hl hr hakl hakr hI);clear hF hZ hl hr hakl hakr hI;go_enter func519,ntmps519;go_wp2_with fail
 exact z2n
theorem zipU_s{r1:Nat}(hF:∀(args:Array Value) (w:World),(callFunc F args).run prog w=.ok (.enter F args) w)(hZ:Z3h F caps J ml mr Inv)(hl:J.map r1 ml)(hr:MapO J ro mr)(hakl:∀s v,findK ml s=some v->∃k,AK v k)(hakr:∀s v,findK mr s=some v->∃k,AK v k)(hI:Inv (zAll ml mr) J L R):Ac 517 #[.map (some r1),.iface 340 (pt al),mapV ro,.int .i64 0,(.func (.func F) #[] caps)] J L R fun u K L' R'=>u=.bool true/\Inv (fun _=>false) K L' R':=by
 intro M I w W S;have HC:=Hd (dzip_s (al:=al) (lo:=some r1) hF hZ hl hr hakl hakr hI);clear hF hZ hl hr hakl hakr hI;simp only[mapV_s]at HC;go_enter func517,ntmps517;go_wp2_with fail
 exact z2n
theorem zswap{bF:Nat}(hF:∀(args:Array Value) (w:World),(callFunc F args).run prog w=.ok (.enter F args) w)(hZ:Z3h F caps J [] mr Inv):
  Z3h 300 #[pt bF] J mr [] fun left K L R=>∃L3,L=(bF,[(.func (.func F) #[] caps)],.t 549)::L3/\Inv left K L3 R:=by
 rintro left K L R s lb rb hle ⟨L3,rfl,hI⟩ hs hls hor M I w W S;have hcall:=hZ left K L3 R s rb lb hle hI hs hls (hor.elim .inr fun h=>by simp[findK]at h);have e:findK ([]:KV) s=none:=rfl;rw[e]at hcall S⊢;clear hZ hor;simp only[show ∀b,vblk none b=[]from fun _=>rfl,show ∀b,vif none b=.nilIface from fun _=>rfl,nil_append]at hcall S⊢;go_enter func300,ntmps300;go_wp2_with (refine wk ?_)
 refine Q0a S hcall ?_;rintro r5 K5 L5 R5 W' hle5 ⟨rfl,L4,rfl,hpost⟩ S2;have hpost:=Hd hpost;clear S hcall;have S:=S2;clear S2;replace S:=sa S;go_wp2_with (refine wk ?_)
 go_ret;exact ap hle5 ⟨rfl,_,rfl,L4,rfl,hpost.out⟩ (show St _ _ _ _ _ (vblk (findK mr s) lb++((bF,[(.func (.func F) #[] caps)],.t 549)::L4)) _ from keep S)
theorem X9g(hF:∀(args:Array Value) (w:World),(callFunc F args).run prog w=.ok (.enter F args) w)(hZ:Z3h F caps J ml mr Inv)(hl:MapO J lo ml)(hr:MapO J ro mr)(hakl:∀s v,findK ml s=some v->∃k,AK v k)(hakr:∀s v,findK mr s=some v->∃k,AK v k)(hI:Inv (zAll ml mr) J L R)(hsome:lo.isSome=true\/ro.isSome=true):Ac 298 #[.iface 340 (pt al),mapV lo,mapV ro,.int .i64 0,(.func (.func F) #[] caps)] J L R fun u K L' R'=>u=.bool true/\Inv (fun _=>false) K L' R':=by
 intro M I w W S;cases lo with
 |some r1=>
  have HC:=Hd (zipU_s (al:=al) hF hZ (show J.map r1 ml from hl) hr hakl hakr hI);clear hF hZ hl hr hakl hakr hI hsome;simp only[mapV_s];go_enter func298,ntmps298;go_wp2_with (first|refine wk ?_|refine wn ?_;clear S;intro y W S)
  exact z2n
 |none=>
  obtain rfl:ml=[]:=hl;cases ro with
  |none=>rcases hsome with h|h<;>cases h
  |some r2=>
   have e0:zAll [] mr=zAll mr []:=funext fun z=>by simp[zAll,findK]
   rw[e0]at hI;have HC:=fun bF=>zipU_s (al:=al) (ro:=none) (L:=(bF,[(.func (.func F) #[] caps)],.t 549)::L) (R:=R) (Go.MuLone.run_callFunc_enter func300 kr rfl) (zswap (bF:=bF) hF hZ) (show J.map r2 mr from hr) rfl hakr hakl ⟨L,rfl,hI⟩;have HC:=Hd HC;clear hF hZ hr hakl hakr hI hsome e0;simp only[mapV_n,mapV_s]at HC⊢;go_enter func298,ntmps298;go_wp2_with (first|refine wk ?_|refine wn ?_;clear S;intro y W S)
   refine Q0a S (HC.out y) ?_;rintro r5 K5 L5 R5 W' hle5 ⟨rfl,L3,rfl,hpost⟩ S2;have hpost:=Hd hpost;clear S;have S:=S2;clear S2;replace S:=sa S;go_wp2_with fail
   go_ret;exact ap hle5 ⟨rfl,hpost.out⟩ (show St _ _ _ _ _ L3 _ from keep S)
end
section
open Go.RowKit Go.Maps Go.ChangeShapes Go.WideShapes
section
variable{H:Type}{enc:TypeId×Value->H}{W W':World}
def argT(t:TypeId):Prop:=t=2\/t=3\/t=9\/t=31\/t=32\/t=33\/t=35
theorem kids_arg:Kids prog argT where
 pointer:=by
  rintro t e (rfl|rfl|rfl|rfl|rfl|rfl|rfl) h
  ·rw[underlying2]at h;cases h
  ·rw[underlying3]at h;cases h
  ·rw[underlying9]at h;cases h
  ·rw[underlying31]at h;cases h
  ·rw[underlying32]at h;cases h
  ·rw[underlying33]at h;cases h
  ·rw[underlying35]at h;cases h
 slice:=by
  rintro t e (rfl|rfl|rfl|rfl|rfl|rfl|rfl) h
  ·rw[underlying2]at h;cases h
  ·rw[underlying3]at h;cases h
  ·rw[underlying9]at h;cases h
  ·rw[underlying31]at h;cases h
  ·rw[underlying32]at h;cases h;exact .inr (.inr (.inl rfl))
  ·rw[underlying33]at h;cases h;exact .inr (.inr (.inr (.inr (.inr (.inr rfl)))))
  ·rw[underlying35]at h;cases h
 array:=by
  rintro t e n (rfl|rfl|rfl|rfl|rfl|rfl|rfl) h
  ·rw[underlying2]at h;cases h
  ·rw[underlying3]at h;cases h
  ·rw[underlying9]at h;cases h
  ·rw[underlying31]at h;cases h
  ·rw[underlying32]at h;cases h
  ·rw[underlying33]at h;cases h
  ·rw[underlying35]at h;cases h
 struct:=by
  rintro t fs (rfl|rfl|rfl|rfl|rfl|rfl|rfl) h
  ·rw[underlying2]at h;cases h
  ·rw[underlying3]at h;cases h
  ·rw[underlying9]at h;cases h
  ·rw[underlying31]at h;cases h
  ·rw[underlying32]at h;cases h
  ·rw[underlying33]at h;cases h
  ·rw[underlying35]at h;cases h;refine⟨?_,by kernel_rfl,?_⟩
   ·intro f hf;simp only[List.mem_cons,List.not_mem_nil,or_false]at hf;rcases hf with rfl|rfl|rfl|rfl|rfl|rfl<;>simp[argT]
   ·intro j f hj;match j,hj with
    |0,hj=>cases hj;show(_:Nat)=_;kernel_rfl
    |1,hj=>cases hj;show(_:Nat)=_;kernel_rfl
    |2,hj=>cases hj;show(_:Nat)=_;kernel_rfl
    |3,hj=>cases hj;show(_:Nat)=_;kernel_rfl
    |4,hj=>cases hj;show(_:Nat)=_;kernel_rfl
    |5,hj=>cases hj;show(_:Nat)=_;kernel_rfl
    |j+6,hj=>simp at hj
 map:=by
  rintro t k e (rfl|rfl|rfl|rfl|rfl|rfl|rfl) h
  ·rw[underlying2]at h;cases h
  ·rw[underlying3]at h;cases h
  ·rw[underlying9]at h;cases h
  ·rw[underlying31]at h;cases h
  ·rw[underlying32]at h;cases h
  ·rw[underlying33]at h;cases h
  ·rw[underlying35]at h;cases h
theorem full_arg:∀t e,argT t->prog.underlying t=some (.slice e)->0<prog.cellsOf e:=by
 rintro t e (rfl|rfl|rfl|rfl|rfl|rfl|rfl) h
 ·rw[underlying2]at h;cases h
 ·rw[underlying3]at h;cases h
 ·rw[underlying9]at h;cases h
 ·rw[underlying31]at h;cases h
 ·rw[underlying32]at h;cases h;exact(show prog.cellsOf 9=1 by kernel_rfl)▸Nat.one_pos
 ·rw[underlying33]at h;cases h;exact(show prog.cellsOf 35=6 by kernel_rfl)▸b0t
 ·rw[underlying35]at h;cases h
theorem same_at(hh:∀k,k<W.heap.size->W'.heap[k]?=W.heap[k]?){p:MemPlace}(hp:p.block<W.heap.size):W.sameAt W' p:=by
 cases p with
 |cell b off=>
  show W'.cell? ⟨b,off,none⟩=W.cell? ⟨b,off,none⟩;unfold World.cell?;dsimp only;rw[hh b hp]
 |map b=>exact hh b hp
theorem Z7x{sp:Nat->Bool}{held:Bool}{base:Nat}(hh:∀k,k<W.heap.size->W'.heap[k]?=W.heap[k]?):∀{ts:List TypeId} {vs:List Value} {ds:List (DataW H)} {ps:List MemPlace},DataW.TrodAll enc prog W base sp held ts vs ds ps->(∀p∈ps,p.block<W.heap.size)->DataW.TrodAll enc prog W' base sp held ts vs ds ps
 |[],[],[],_,h,_=>h
 |_::_,_::_,_::_,_,⟨p,q,⟨n,h1⟩,h2,e⟩,hs=>
  ⟨p,q,⟨n,DataW.trod_carry n _ _ _ h1 fun x hx=>same_at hh (hs x (by rw[e];exact List.mem_append_left _ hx))⟩,Z7x hh h2 fun x hx=>hs x (by rw[e];exact List.mem_append_right _ hx),e⟩
theorem kept_all{may:MemPlace->Prop}(ho:W'.os=W.os)(hp:W'.output=W.output)(hh:∀k,k<W.heap.size->W'.heap[k]?=W.heap[k]?):W.keptBut W' may:=by
 refine⟨ho,hp,fun i hi=>?_⟩;rw[hh i hi];cases h:W.heap[i]? with
 |none=>rfl
 |some o=>cases o<;>first|exact⟨rfl,rfl,rfl,fun _ _=>rfl⟩|exact .inr ⟨rfl,rfl⟩|rfl
theorem law_post{K:Gh}{args:Array Value}{ds gs:List (DataW H)}{before:List MemPlace}(s:ChangeSpec)(hv:s.vars=[])(hW:DataW.Whole enc prog Tryz.f5.params.toList s.vars false W args.toList ds gs before)(st:Step Nix (ghW W) K W W')
  (hr:(s.fn H (ds++gs)).results=[.lit (.bool true)])(ha:(s.fn H (ds++gs)).args=ds)(hz:(s.fn H (ds++gs)).vars=[]):s.post enc prog Tryz.f5 false true false false W args (.bool true) W':=by
 have hlt:=hW.lt;have hW0:=hW;obtain⟨p,q,h1,h2,rfl,hfz,hnd⟩:=hW;have hh:∀k,k<W.heap.size->W'.heap[k]?=W.heap[k]?:=fun k hk=>st.block k hk fun h=>h;rw[hv]at h2;obtain⟨rfl,rfl⟩:=trodVars_none h2;refine⟨ds,[],p++[],[],p,[],hW0,?_,?_,?_,kept_all st.os st.output hh,fun h=>by cases h⟩
 ·rw[hr];exact⟨[],[],shut_bool underlying4 true,rfl,rfl⟩
 ·rw[ha];refine Z7x hh (DataW.TrodAll.respare kids_arg full_arg ?_ h1 fun x hx=>?_) fun x hx=>hlt x (List.mem_append_left _ hx)
  ·intro t ht;rw[params5]at ht;simp only[List.mem_cons,List.not_mem_nil,or_false]at ht;rcases ht with rfl|rfl|rfl|rfl<;>simp[argT]
  ·exact decide_eq_true (hlt x (List.mem_append_left _ hx))
 ·rw[hv,hz];rfl
end
end
end Go.Proofs.YtbmklgemmjgjfaaGreat
