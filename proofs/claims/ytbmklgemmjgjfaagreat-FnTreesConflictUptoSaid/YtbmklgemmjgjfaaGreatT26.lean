/- Part 26: Zip, Mul. -/
import Derived.Test.YtbmklgemmjgjfaaGreatT23
namespace Go.Proofs.YtbmklgemmjgjfaaGreat
open List (cons_append nil_append)
open Go.RowKit Go.Maps Tryz
set_option linter.unusedVariables false
set_option linter.unusedSimpArgs false
set_option maxRecDepth 100000
set_option maxHeartbeats 2000000
section
section
variable{P:Program}{M:Nat->Prop}{I J:Gh}{w W:World}{L:List Blk}{R:List Rw}{ops:Array Oper}{rest:List Oper}{o:Oper}{a:Act}{Q:EAW}{b j:Nat}{cs:List Value}{t T:TypeId}{x:Operand}{v:Value}
theorem wl_loadW(S:Hid (St M I J w W L R))(hw:Region.wanted o (yielded ops a.tmps)=true)(ho:o.op=.load T x)(hx:a.eval x=.pointer (some ⟨b,j,Option.none⟩))[i:Hs L b cs t][k:Ldv P T cs j v]
  (h:wpList P ops Q rest (a.put o.dst v) W):wpList P ops Q (o::rest) a W:=Q0l hw fun _ hK=>X4q S ho hx (hK _ _ h)
end
def vif(o:Option Value)(b:Nat):Value:=match o with
 |some _=>.iface 339 (pt b)
 |none=>.nilIface
theorem vif_s(v:Value)(b:Nat):vif (some v) b=.iface 339 (pt b):=rfl
theorem vif_n(b:Nat):vif none b=.nilIface:=rfl
def vblk(o:Option Value)(b:Nat):List Blk:=match o with
 |some v=>[(b,[v],.t 430)]
 |none=>[]
def mapV(o:Option Nat):Value:=match o with
 |some r=>.iface 633 (.map (some r))
 |none=>.nilIface
theorem mapV_s(r:Nat):mapV (some r)=.iface 633 (.map (some r)):=rfl
theorem mapV_n:mapV none=.nilIface:=rfl
def MapO(J:Gh)(o:Option Nat)(m:KV):Prop:=match o with
 |some r=>J.map r m
 |none=>m=[]
theorem zer20(w:World):(zeroValue 20).run prog w=.ok .nilIface w:=by kernel_rfl
variable{m ml mr:KV}{J K:Gh}
theorem MapO.mono{o:Option Nat}(h:MapO J o m)(l:J.le K):MapO K o m:=by
 cases o with
 |none=>exact h
 |some r=>exact Gh.map.mono (show J.map r m from h) l
variable{v:Value}
theorem reuse_a{b k:Nat}{u:Value}(hk:AK v k):Ac 167 #[pt b,v] J [(b,[u],.t 430)] [] fun r K L' R'=>K=J/\R'=[]/\r=.iface 339 (pt b)/\L'=[(b,[v],.t 430)]:=by
 intro M I w W S;cases hk;all_goals
  go_enter func167,ntmps167
  go_wp2_with (first|refine wk ?_|refine Ws ?_;clear S;intro W S)
  go_ret
  exact ap gR ⟨rfl,rfl,rfl,rfl⟩ (keep S)
theorem alloc_a{a:Addr}:Ac 166 #[.pointer (some a)] J [] [] fun r K L' R'=>K=J/\R'=[]/\∃b,r=pt b/\L'=[(b,[.nilIface],.t 430)]:=by
 intro M I w W S;go_enter func166,ntmps166;go_wp2_with (first|refine wk ?_|refine wn ?_;clear S;intro y W S)
 go_ret;exact ap gR ⟨rfl,rfl,y,rfl,rfl⟩ (keep S)
variable{s:BA}{r al F ba bl br bf vb:Nat}
theorem getU_s(hm:J.map r m)(hs:s.size<=maxLen)(hak:∀v,findK m s=some v->∃k,AK v k):
  Ac 510 #[.map (some r),.iface 340 (pt al),.string s] J [] [] fun u K L' R'=>K=J/\R'=[]/\∃b,u=.tuple #[vif (findK m s) b,.bool (findK m s).isSome]/\L'=vblk (findK m s) b:=by
 intro M I w W S;have HM:=Hd (And.intro hm hs);clear hm hs;cases hf:findK m s with
 |none=>
  clear hak;go_enter func510,ntmps510;go_wp2_with (first|at_lookup;refine Q6l rfl _ _ 633 20 rfl underlying633 zer20 r m rfl (HM.out.1.at S.out.inw) s rfl HM.out.2 ?_;rw[hf]|refine wk ?_)
  refine bT ?_;exact ap gR ⟨rfl,rfl,0,rfl,rfl⟩ S.out
 |some v=>
  obtain⟨k,hk⟩:=hak v hf;have HK:=Hd hk;clear hk hak;go_enter func510,ntmps510;go_wp2_with (first|at_lookup;refine Q6l rfl _ _ 633 20 rfl underlying633 zer20 r m rfl (HM.out.1.at S.out.inw) s rfl HM.out.2 ?_;rw[hf]|refine wk ?_)
  refine Q0a S alloc_a ?_;rintro r5 K5 L5 R5 W' hle5 ⟨hKJ,rfl,b,rfl,rfl⟩ S2;clear S;have S:=S2;clear S2;replace S:=sa S;have hJK:=hKJ.symm;subst hJK;go_wp2_with (refine wk ?_)
  refine Q0a S (reuse_a (u:=.nilIface) HK.out) ?_;rintro r5 K5 L5 R5 W' hle5 ⟨hKJ,rfl,rfl,rfl⟩ S2;clear S;have S:=S2;clear S2;replace S:=sa S;have hJK:=hKJ.symm;subst hJK;go_wp2_with (refine wk ?_)
  refine bT ?_;exact ap gR ⟨rfl,rfl,b,rfl,rfl⟩ S.out
theorem has_x(hm:J.map r m)(hs:s.size<=maxLen)(w:World)(hi:J.In w):
  Calls prog 511 #[.map (some r),.string s] w (Got Nix J w (.bool (findK m s).isSome)):=by
 refine Q0c (M:=Nix) hi ?_;intro W S;have HM:=Hd (And.intro hm hs);clear hm hs;go_enter func511,ntmps511;go_wp2_with (first|at_lookup;refine Q6l rfl _ _ 633 20 rfl underlying633 zer20 r m rfl (HM.out.1.at S.out.inw) s rfl HM.out.2 ?_|refine wk ?_)
 go_ret;exact⟨rfl,S.out.step⟩
def zB(ba bl br bf al:Nat)(lo ro:Option Nat)(fv:Value):List Blk:=[(bf,[fv],.t 549),(br,[mapV ro],.t 392),(bl,[mapV lo],.t 392),(ba,[.iface 340 (pt al)],.t 254)]
variable{Post:Gh->List Blk->List Rw->Prop}{R:List Rw}{L:List Blk}{lo ro:Option Nat}{caps:Array Value}
theorem zclo1_s{ml:KV}(hF:∀(args:Array Value) (w:World),(callFunc F args).run prog w=.ok (.enter F args) w)(hro:MapO K ro mr)(hs:s.size<=maxLen)(hak:∀v,findK mr s=some v->∃k,AK v k)
  (h:∀rb,Ac F (#[.string s,.iface 339 (pt vb),vif (findK mr s) rb]++caps) K ((vb,[v],.t 430)::(vblk (findK mr s) rb++L)) R fun u K2 L2 R2=>u=.bool true/\∃L3,L2=(vb,[v],.t 430)::(vblk (findK mr s) rb++L3)/\Post K2 L3 R2):
  Ac 522 ((L2t s vb).toArray++(L1o br ba bf).toArray) K ((vb,[v],.t 430)::(zB ba bl br bf al lo ro (.func (.func F) #[] caps)++L)) R
   fun u K2 L2 R2=>u=.bool true/\∃L3,L2=(vb,[v],.t 430)::(zB ba bl br bf al lo ro (.func (.func F) #[] caps)++L3)/\Post K2 L3 R2:=by
 intro M I w W S;have HH:=Hd h;clear h;cases ro with
 |none=>
  obtain rfl:mr=[]:=hro;clear hak hs;simp only[zB,mapV_s,mapV_n,cons_append,nil_append]at S;go_enter_defers func522,ntmps522;go_wp2_with (refine wk ?_)
  have hcall:=HH.out 0;simp only[findK,List.find?_nil,Option.map_none,vif,vblk,nil_append]at hcall;refine Q0a S hcall ?_;clear hcall;rintro r5 K5 L5 R5 W' hle5 ⟨rfl,L3,rfl,hpost⟩ S2;clear S;have S:=S2;clear S2;replace S:=sa S;go_wp2_with (refine wk ?_)
  exact⟨_,results_tmp rfl _ _ _,ap hle5 ⟨rfl,L3,rfl,hpost⟩ (show St _ _ _ _ _ ((vb,[v],.t 430)::(bf,[.func (.func F) #[] caps],.t 549)::(br,[.nilIface],.t 392)::(bl,[mapV lo],.t 392)::(ba,[.iface 340 (pt al)],.t 254)::L3) _ from keep S)⟩
 |some r=>
  have hg:=Hd (getU_s (al:=al) (show K.map r mr from hro) hs hak);clear hak hro;simp only[zB,mapV_s,mapV_n,cons_append,nil_append]at S;go_enter_defers func522,ntmps522;go_wp2_with (refine wk ?_)
  refine Q0a S hg.out ?_;rintro r5 K5 L5 R5 W' hle5 ⟨hKJ,rfl,rb,rfl,rfl⟩ S2;have hJK:=hKJ.symm;subst hJK;clear S;have S:=S2;clear S2;have hcall:=HH.out rb;cases hf:findK mr s with
  |none=>
   simp only[hf,vif,vblk,cons_append,nil_append,List.append_nil,List.append_assoc,Option.isSome_none]at S hcall⊢;go_wp2_with (refine wk ?_)
   refine Q0a S hcall ?_;clear hcall;rintro r5 K5 L5 R5 W' hle5 ⟨rfl,L3,rfl,hpost⟩ S2;clear S;have S:=S2;clear S2;replace S:=sa S;go_wp2_with (refine wk ?_)
   exact⟨_,results_tmp rfl _ _ _,ap hle5 ⟨rfl,L3,rfl,hpost⟩ (show St _ _ _ _ _ ((vb,[v],.t 430)::(bf,[.func (.func F) #[] caps],.t 549)::(br,[.iface 633 (.map (some r))],.t 392)::(bl,[mapV lo],.t 392)::(ba,[.iface 340 (pt al)],.t 254)::L3) _ from keep S)⟩
  |some u=>
   simp only[hf,vif,vblk,cons_append,nil_append,List.append_nil,List.append_assoc,Option.isSome_some]at S hcall⊢;go_wp2_with (refine wk ?_)
   refine Q0a S hcall ?_;clear hcall;rintro r5 K5 L5 R5 W' hle5 ⟨rfl,L3,rfl,hpost⟩ S2;clear S;have S:=S2;clear S2;replace S:=sa S;go_wp2_with (refine wk ?_)
   exact Q0z _ _ ⟨_,results_tmp rfl _ _ _,ap hle5 ⟨rfl,L3,rfl,hpost⟩ (show St _ _ _ _ _ ((vb,[v],.t 430)::(bf,[.func (.func F) #[] caps],.t 549)::(br,[.iface 633 (.map (some r))],.t 392)::(bl,[mapV lo],.t 392)::(ba,[.iface 340 (pt al)],.t 254)::L3) _ from keep S)⟩
theorem zclo2_s{mr:KV}(hF:∀(args:Array Value) (w:World),(callFunc F args).run prog w=.ok (.enter F args) w)(hlo:MapO K lo ml)(hs:s.size<=maxLen)
  (h:findK ml s=none->Ac F (#[.string s,.nilIface,.iface 339 (pt vb)]++caps) K ((vb,[v],.t 430)::L) R fun u K2 L2 R2=>u=.bool true/\∃L3,L2=(vb,[v],.t 430)::L3/\Post K2 L3 R2)(h2:(findK ml s).isSome=true->Post K L R):
  Ac 523 ((L2t s vb).toArray++#[pt bl,pt bf]) K ((vb,[v],.t 430)::(zB ba bl br bf al lo ro (.func (.func F) #[] caps)++L)) R
   fun u K2 L2 R2=>u=.bool true/\∃L3,L2=(vb,[v],.t 430)::(zB ba bl br bf al lo ro (.func (.func F) #[] caps)++L3)/\Post K2 L3 R2:=by
 intro M I w W S;have HH:=Hd (And.intro h h2);clear h h2;cases lo with
 |none=>
  obtain rfl:ml=[]:=hlo;simp only[zB,mapV_s,mapV_n,cons_append,nil_append]at S;have hcall:=HH.out.1 rfl;go_enter func523,ntmps523;go_wp2_with (refine wk ?_)
  refine Q0a S hcall ?_;clear hcall;rintro r5 K5 L5 R5 W' hle5 ⟨rfl,L3,rfl,hpost⟩ S2;clear S;have S:=S2;clear S2;replace S:=sa S;go_wp2_with (refine wk ?_)
  go_ret;exact ap hle5 ⟨rfl,L3,rfl,hpost⟩ (show St _ _ _ _ _ ((vb,[v],.t 430)::(bf,[.func (.func F) #[] caps],.t 549)::(br,[mapV ro],.t 392)::(bl,[.nilIface],.t 392)::(ba,[.iface 340 (pt al)],.t 254)::L3) _ from keep S)
 |some r=>
  have HM:=Hd (And.intro (show K.map r ml from hlo) hs);clear hlo;simp only[zB,mapV_s,mapV_n,cons_append,nil_append]at S;cases hf:findK ml s with
  |none=>
   have hcall:=HH.out.1 hf;go_enter func523,ntmps523;go_wp2_with (first|go_at_call 511;refine got S (has_x HM.out.1 HM.out.2) ?_;clear S;intro W S;simp only[hf,Option.isSome_none]|refine wk ?_)
   refine Q0a S hcall ?_;clear hcall;rintro r5 K5 L5 R5 W' hle5 ⟨rfl,L3,rfl,hpost⟩ S2;clear S;have S:=S2;clear S2;replace S:=sa S;go_wp2_with (refine wk ?_)
   go_ret;exact ap hle5 ⟨rfl,L3,rfl,hpost⟩ (show St _ _ _ _ _ ((vb,[v],.t 430)::(bf,[.func (.func F) #[] caps],.t 549)::(br,[mapV ro],.t 392)::(bl,[.iface 633 (.map (some r))],.t 392)::(ba,[.iface 340 (pt al)],.t 254)::L3) _ from keep S)
  |some u=>
   have hpost:=Hd (HH.out.2 (by rw[hf];rfl));go_enter func523,ntmps523;go_wp2_with (first|go_at_call 511;refine got S (has_x HM.out.1 HM.out.2) ?_;clear S;intro W S;simp only[hf,Option.isSome_some]|refine wk ?_)
   go_ret;exact ap gR ⟨rfl,L,rfl,hpost.out⟩ (show St _ _ _ _ _ ((vb,[v],.t 430)::(bf,[.func (.func F) #[] caps],.t 549)::(br,[mapV ro],.t 392)::(bl,[.iface 633 (.map (some r))],.t 392)::(ba,[.iface 340 (pt al)],.t 254)::L) _ from keep S)
end
section
section
variable{P:Program}{md:Region.Mode}{ops:Array Oper}{Q:EAW}{S:World->Prop}{Z:List Nat}{o o2:Oper}{a:Act}
theorem Q6o(is1 is2:List Nat)(f1 f2:Nat){i j:Nat}{fuel:Nat}{listed:Array Bool}{W:World}(hr:Region.ready md ops listed=[i,j])[ho:OpA ops i o][ho2:OpA ops j o2](hg:o.guard=none)(hg2:o2.guard=none)(hs:Region.noSelect ops=true)
  (hf1:fuel=f1+is1.length)(hf2:fuel=f2+is2.length)(hc1:chkT md ops Z is1 (listed.setIfInBounds i true)=true)(hc2:chkT md ops Z is2 (listed.setIfInBounds j true)=true)
  (h1:∀K:AW,Shut (∀a W,S W->YS P ops S is1 a (fun a'=>Q0w P md ops (NoPanic Q) S Z f1 (Q5k is1 (listed.setIfInBounds i true)) a' W)->K a W)->Oper.wp P o a W K (NoPanic Q))
  (h2:∀K:AW,Shut (∀a W,S W->YS P ops S is2 a (fun a'=>Q0w P md ops (NoPanic Q) S Z f2 (Q5k is2 (listed.setIfInBounds j true)) a' W)->K a W)->Oper.wp P o2 a W K (NoPanic Q)):Q0w P md ops (NoPanic Q) S Z (fuel+1) listed a W:=by
 refine Q5n hr b0f (Q1o.held ho.h (fun K hK=>?_) (Q1o.held ho2.h (fun K hK=>?_) Q1o.nil))
 ·rw[if_pos (Q0b hg _)];refine h1 K fun a W hS hY=>hK a W hS fun _=>?_;subst hf1;exact X2c (fun _ _ _ _ _ h=>h) hs f1 is1 hc1 hS hY
 ·rw[if_pos (Q0b hg2 _)];refine h2 K fun a W hS hY=>hK a W hS fun _=>?_;subst hf2;exact X2c (fun _ _ _ _ _ h=>h) hs f2 is2 hc2 hS hY
end
section
variable{P:Program}{f:FuncId}{args:Array Value}{J:Gh}{L L1 L0:List Blk}{R R1 R0:List Rw}{Post:Value->Gh->List Blk->List Rw->Prop}
theorem Acts.frame(h:Acts P f args J L1 R1 Post)(hl:(L1++L0).Perm L)(hr:(R1++R0).Perm R):Acts P f args J L R fun u K L' R'=>∃L2 R2,Post u K L2 R2/\L'=L2++L0/\R'=R2++R0:=fun M I w W S=>
 Z7p S h hl hr fun r K L' R' W' hle hp T=>⟨r,K,_,_,rfl,hle,⟨L',R',hp,rfl,rfl⟩,T.out⟩
end
section
variable{M:Nat->Prop}{I J:Gh}{w W:World}{L:List Blk}{R:List Rw}{ops:Array Oper}{rest:List Oper}{o:Oper}{a:Act}{Q:EAW}{K:AW}{T:TypeId}
theorem St.mkmap(S:St M I J w W L R):St M I J w (W.alloc (.map #[] 0)) ((W.heap.size,[],.m [])::L) R:=
 (S.allocO _).pushX (show Q3z _ _ _ from World.ownsMap_made W prog 9 RV) (S.inw.none (Nat.le_refl _)) (fun h=>absurd h (by have:=S.step.size;simp only;omega)) (fun x hx e=>by have:=S.lt hx;rw[e]at this;simp only at this;omega) (fun r hr e=>by have:=S.rlt hr e;simp only at this;omega)
theorem wq_mk(S:Hid (St M I J w W L R))(ho:o.op=.makeMap T none)(h:∀r W',Hid (St M I J w W' ((r,[],.m [])::L) R)->K (a.put o.dst (.map (some r))) W'):o.wp prog a W K Q:=by
 unfold Oper.wp execOp;simp only[ho,Sem.run_bind,Option.map_none,run_makeMap,Result.andThen_ok];exact h _ _ S.out.mkmap
theorem X1a(S:Hid (St M I J w W L R))(hg:o.guard=none)(ho:o.op=.makeMap T none)(h:∀r W',Hid (St M I J w W' ((r,[],.m [])::L) R)->wpList prog ops Q rest (a.put o.dst (.map (some r))) W'):wpList prog ops Q (o::rest) a W:=Q0l (Q0b hg _) fun _ hK=>wq_mk S ho fun r W' S'=>hK _ _ (h r W' S')
end
end
end Go.Proofs.YtbmklgemmjgjfaaGreat
