/- Part 5: Vu, Lem, Eql. -/
import Derived.Deep.LoopGhost
import Derived.Conc.MuLone
import Derived.Test.YtbmklgemmjgjfaaGreatT03
namespace Go.Proofs.YtbmklgemmjgjfaaGreat
open Go.RowKit Go.Maps Tryz
set_option linter.unusedVariables false
set_option linter.unusedSimpArgs false
set_option maxRecDepth 100000
set_option maxHeartbeats 2000000
variable{w:World}
section

theorem X5b(a:Addr)(w:World):
  Calls prog 166 #[.pointer (some a)] w fun e w'=>e=.returned (.pointer (some ⟨w.heap.size,0,none⟩))/\w.alloc (.cells #[.nilIface] 430)=w':=by
 go_enter func166,ntmps166;go_wp2;go_ret;exact⟨rfl,rfl⟩
theorem X6d(b:Nat)(u v:Value)(k:Nat)(hv:AK v k)(w:World)(hc:w.cell? ⟨b,0,none⟩=some u)(hf:w.frozen? ⟨b,0,none⟩=false):
  Calls prog 167 #[pt b,v] w fun e w'=>e=.returned (.iface 339 (pt b))/\w.setCell ⟨b,0,none⟩ v=w':=by
 cases hv;all_goals
  go_enter func167,ntmps167
  go_wp2
  go_ret
  exact⟨rfl,rfl⟩
theorem newValue_x(v:Value)(k:Nat)(hv:AK v k)(w:World):
  Calls prog 110 #[v] w fun e w'=>e=.returned (.iface 339 (.pointer (some ⟨w.heap.size+1,0,none⟩)))/\(w.alloc (.cells #[] 342)).alloc (.cells #[v] 430)=w':=by
 cases hv;all_goals
  go_enter func110,ntmps110
  go_wp2
  go_ret
  exact⟨rfl,rfl⟩
theorem Q7s(w:World):
  Calls prog 113 #[] w fun e w'=>e=.returned (.iface 340 (.pointer (some ⟨w.heap.size,0,none⟩)))/\w.alloc (.cells #[] 342)=w':=by
 go_enter func113,ntmps113;go_wp2;go_ret;exact⟨rfl,rfl⟩
theorem free_d(a:Addr)(v:Value)(u:FrameMode)(w:World):
  CallsD prog 388 #[.pointer (some a),v] u w fun e u' w'=>u'=u/\(e=.returned (.tuple #[])/\w=w'):=by
 go_enter_d func388,ntmps388;go_wp2;go_end0;exact⟨rfl,rfl⟩
theorem set_one{b:Nat}{u v:Value}{t:TypeId}(h:w.heap[b]?=some (.cells #[u] t (0,0))):(w.setCell ⟨b,0,none⟩ v).heap[b]?=some (.cells #[v] t (0,0)):=one_setCell h
structure But2(a b:Nat)(w w':World):Prop where
 os:w'.os=w.os
 tape:w'.tape=w.tape
 output:w'.output=w.output
 size:w'.heap.size=w.heap.size
 block:∀k,k≠a->k≠b->w'.heap[k]?=w.heap[k]?

theorem X0c(F:Nat)(caps:Array Value)(al:Addr)(r:Nat)(w:World)(hM:Q3z w r []):
  Calls prog 513 #[.map (some r),.iface 340 (.pointer (some al)),.func (.func F) #[] caps] w fun e w'=>e=.returned (.bool true)/\w=w':=by
 go_enter_defers func513,ntmps513;go_wp2_with (at_len;refine Q5z rfl _ 633 20 rfl underlying633 r [] rfl hM ?_)
 exact⟨_,results_tmp rfl _ _ _,rfl,rfl⟩

theorem X0o(F:Nat)(caps:Array Value)(al:Addr)(r:Nat)(M:KV)(w:World)(hM:Q3z w r M)(hne:((M.length:Int)==0)=false)(hr:r<w.heap.size)
  (hF:∀(args:Array Value) (w:World),(callFunc F args).run prog w=.ok (.enter F args) w)
  (hAK:∀s v,findK M s=some v->∃k,AK v k)
  (Inv:(BA->Bool)->World->Prop)(Done Stop:World->Prop)
  (h1:∀W,Below w.heap.size w W->Inv (fun s=>(findK M s).isSome) W)
  (hst:∀left W W',Inv left W->But2 w.heap.size (w.heap.size+1) W W'->Inv left W')
  (hdone:∀left W,Inv left W->(∀s,left s=false)->Done W)
  (hstep:∀left W s v,Inv left W->s.size<=maxLen->left s=true->findK M s=some v->W.heap[w.heap.size]?=some (.cells #[v] 430 (0,0))->w.heap.size+1<W.heap.size->
   Calls prog F (#[.string s,.iface 339 (.pointer (some ⟨w.heap.size,0,none⟩))]++caps) W fun e W'=>
    (W'.heap[w.heap.size]?=W.heap[w.heap.size]?/\W'.heap[w.heap.size+1]?=W.heap[w.heap.size+1]?/\W'.heap[r]?=W.heap[r]?)/\
    ((e=.returned (.bool true)/\Inv (fun z=>left z&&!decide (z=s)) W')\/(e=.returned (.bool false)/\Stop W'))):
  Calls prog 513 #[.map (some r),.iface 340 (.pointer (some al)),.func (.func F) #[] caps] w fun e w'=>
   (e=.returned (.bool true)/\Done w')\/(e=.returned (.bool false)/\Stop w'):=by
 go_enter_defers func513,ntmps513;go_wp2_with (first|at_len;refine Q5z rfl _ 633 20 rfl underlying633 r M rfl hM ?_|go_at_call 166;refine(X5b _ _).mono ?_;rintro e w' ⟨rfl,rfl⟩|at_range;refine Q1g rfl _ 633 20 rfl underlying633 r M rfl (World.ownsMap.alloc hM _) ?_;intro w0 hrg0 hg0 hs0;go_frame)
 simp only[World.size_alloc]at hrg0 hs0⊢;go_loopg [8] M.length (fun cnt _ wr=>∃left u,Q2a wr r (w.heap.size+1) M left cnt/\Inv left wr/\wr.heap[w.heap.size]?=some (.cells #[u] 430 (0,0)))
 case atStart=>exact⟨_,.nilIface,hrg0,h1 w0 (((Below.refl _ _).alloc (Nat.le_refl _) _).grown hg0 b0f b0f),(hg0.block _ b0f b0f).trans (heap_alloc_new w _)⟩
 case round=>
  obtain⟨left,u,hrg,hinv,hvb⟩:=hrel;go_wp2_with (at_next;refine Q1v rfl _ rfl r (w.heap.size+1) M left gk rfl hrg ?_ ?_)
  ·intro h0;have hD:=hdone left wr hinv h0;clear hrg hinv hst hstep hdone;go_wp2_with fail
   refine leaves_cons (f:=388) (args:=#[.pointer (some al),.iface 339 (.pointer (some ⟨w.heap.size,0,none⟩))]) b0f (by simp[go_sem]) ?_;refine(free_d _ _ _ _).mono ?_;rintro e u' w'' ⟨rfl,rfl,rfl⟩;exact⟨_,results_tmp rfl _ _ _,.inl ⟨rfl,hD⟩⟩
  ·intro s v w1 cnt1 hs hl hf hrg1 hlt hg1 hs1 hen;have hb1:w1.heap[w.heap.size]?=some (.cells #[u] 430 (0,0)):=(hg1.block _ (Q1r hvb) b0f).trans hvb;obtain⟨k,hk⟩:=hAK s v hf;have hc1:=Q0e hb1 0;have hf1:=Q4d hb1 0;have hinv1:Inv left w1:=hst left wr w1 hinv ⟨hg1.os,hg1.tape,hg1.output,hs1,fun k _ h2=>by
    by_cases hk:k<wr.heap.size
    ·exact hg1.block k hk b1d
    ·rw[Array.getElem?_eq_none om,Array.getElem?_eq_none om]⟩
   have hlt1:=hrg1.lt;have hF2:=hF;have hS:=hstep left (w1.setCell ⟨w.heap.size,0,none⟩ v) s v (hst left w1 _ hinv1 ⟨rfl,rfl,rfl,by simp,fun k h1 _=>Below.heap_setCell _ _ _ _ h1⟩) hs hl hf (set_one hb1) (by simpa using hlt1);have hrgS:Q2a (w1.setCell ⟨w.heap.size,0,none⟩ v) r (w.heap.size+1) M (fun z=>left z&&!decide (z=s)) cnt1:=hrg1.kept (Below.heap_setCell _ _ _ _ (by show r≠w.heap.size;omega)) (Below.heap_setCell _ _ _ _ (by show w.heap.size+1≠w.heap.size;omega));have hvS:=set_one (v:=v) hb1;clear hinv hinv1 hg1 hrg hrg1 hst hstep hdone h1 hb1;go_wp2_with (go_at_call 167;refine(X6d _ _ v k hk _ hc1 hf1).mono ?_;rintro e w' ⟨rfl,rfl⟩)


   refine hS.mono ?_
   rintro e w2 ⟨⟨q1,q2,q3⟩,⟨rfl,hI⟩|⟨rfl,hI⟩⟩
   ·go_wp2_with fail
    go_roundg cnt1
    case measure=>exact hlt
    case rel=>exact⟨_,v,hrgS.kept q3 q2,hI,q1.trans hvS⟩
   ·go_wp2_with fail
    refine leaves_cons (f:=388) (args:=#[.pointer (some al),.iface 339 (.pointer (some ⟨w.heap.size,0,none⟩))]) b0f (by simp[go_sem]) ?_
    refine(free_d _ _ _ _).mono ?_
    rintro e u' w'' ⟨rfl,rfl,rfl⟩
    exact⟨_,results_tmp rfl _ _ _,.inr ⟨rfl,hI⟩⟩
theorem X1w(F:Nat)(caps:Array Value)(al:Addr)(r:Nat)(M:KV)(w:World)(hM:Q3z w r M)(hr:r<w.heap.size)
  (hF:∀(args:Array Value) (w:World),(callFunc F args).run prog w=.ok (.enter F args) w)
  (hAK:∀s v,findK M s=some v->∃k,AK v k)
  (Inv:(BA->Bool)->World->Prop)(Done Stop:World->Prop)
  (h1:∀W,Below w.heap.size w W->Inv (fun s=>(findK M s).isSome) W)
  (hst:∀left W W',Inv left W->But2 w.heap.size (w.heap.size+1) W W'->Inv left W')
  (hdone:∀left W,Inv left W->(∀s,left s=false)->Done W)
  (hstep:∀left W s v,Inv left W->s.size<=maxLen->left s=true->findK M s=some v->W.heap[w.heap.size]?=some (.cells #[v] 430 (0,0))->w.heap.size+1<W.heap.size->
   Calls prog F (#[.string s,.iface 339 (.pointer (some ⟨w.heap.size,0,none⟩))]++caps) W fun e W'=>
    (W'.heap[w.heap.size]?=W.heap[w.heap.size]?/\W'.heap[w.heap.size+1]?=W.heap[w.heap.size+1]?/\W'.heap[r]?=W.heap[r]?)/\
    ((e=.returned (.bool true)/\Inv (fun z=>left z&&!decide (z=s)) W')\/(e=.returned (.bool false)/\Stop W'))):
  Calls prog 513 #[.map (some r),.iface 340 (.pointer (some al)),.func (.func F) #[] caps] w fun e w'=>
   (e=.returned (.bool true)/\Done w')\/(e=.returned (.bool false)/\Stop w'):=by
 by_cases hne:M=[]
 ·subst hne;refine(X0c F caps al r w hM).mono ?_;rintro e w' ⟨rfl,rfl⟩;exact .inl ⟨rfl,hdone _ w (h1 w (Below.refl _ _)) fun s=>by simp[findK]⟩
 ·have hne':((M.length:Int)==0)=false:=by
   cases M with
   |nil=>exact absurd rfl hne
   |cons p M=>simp;omega
  exact X0o F caps al r M w hM hne' hr hF hAK Inv Done Stop h1 hst hdone hstep
theorem next_x(r:Nat)(a:OA)(n c:Nat)(pv:Value)(i:Int)(w:World)(h:w.heap[r]?=some (.cells #[.slice a n c,pv,.int .i64 i] 707 (0,0)))(h1:-1<=i)(h2:i<=9223372036854775806)(_hn:n<=9223372036854775807):
  Calls prog 527 #[pt r] w fun e w'=>∃k,e=.returned (.bool (decide (i+1<n)))/\(w.setCell ⟨r,2,none⟩ (.int .i64 (i+1))).drewN k=w':=by
 have hc0:=Q0e h 0;have hc2:=Q0e h 2;have hf2:=Q4d h 2;have hl:=Q1r h;simp at hc0 hc2;clear h;go_enter func527,ntmps527;go_wp2_with fail
 go_quiet (fail);go_wp2_with fail
 go_ret;exact⟨_,rfl,rfl⟩
theorem item_x(r b o:Nat)(n c vb:Nat)(i:Nat)(u v:Value)(kk:Nat)(hk:AK v kk)(w:World)(h:w.heap[r]?=some (.cells #[.slice (some ⟨b,o,none⟩) n c,pt vb,.int .i64 i] 707 (0,0)))
  (hv:w.heap[vb]?=some (.cells #[u] 430 (0,0)))(hi:i<n)(hn:n<=9223372036854775807)(he:w.cell? ⟨b,o+i,none⟩=some v)(hbv:¬b=vb):
  Calls prog 526 #[pt r] w fun e w'=>∃k,e=.returned (.tuple #[.int .i64 i,.iface 339 (pt vb)])/\(w.setCell ⟨vb,0,none⟩ v).drewN k=w':=by
 have hc0:=Q0e h 0;have hc1:=Q0e h 1;have hc2:=Q0e h 2;have hcv:=Q0e hv 0;have hfv:=Q4d hv 0;have hl:=Q1r h;simp at hc0 hc1 hc2 hcv;have hi':(i:Int)<n:=by omega
 have hne:¬r=vb:=by intro e;subst e;rw[h]at hv;simp at hv
 have hne':¬vb=r:=fun e=>hne e.symm;have hbv':¬vb=b:=fun e=>hbv e.symm;clear h hv;go_enter func526,ntmps526;go_wp2_with fail
 go_quiet (fail);go_wp2_with fail
 go_region_held3 (fun w'=>w'.cell? ⟨r,0,none⟩=some (.slice (some ⟨b,o,none⟩) n c)/\w'.cell? ⟨r,1,none⟩=some (pt vb)/\w'.cell? ⟨r,2,none⟩=some (.int .i64 i)/\w'.cell? ⟨b,o+i,none⟩=some v) (go_keep)
  (first|(go_at_call 167;refine(X6d vb u v kk hk _ ?_ ?_).mono ?_;(simp[*]);(simp[*]);rintro e w' ⟨rfl,rfl⟩))
 go_wp2_with fail
 go_ret2;exact⟨_,rfl,rfl⟩

theorem Z3x(a:OA)(n c:Nat)(al:Addr)(hn:((n:Int)==0)=false)(w:World):
  Calls prog 503 #[.slice a n c,.iface 340 (.pointer (some al))] w fun e w'=>e=.returned (.iface 701 (.pointer (some ⟨w.heap.size+1,0,none⟩)))/\
   (w.alloc (.cells #[.nilIface] 430)).alloc (.cells #[.slice a n c,.pointer (some ⟨w.heap.size,0,none⟩),.int .i64 (-1)] 707)=w':=by
 go_enter func503,ntmps503;go_wp2;go_ret;exact⟨rfl,rfl⟩
theorem X2b(a:OA)(c:Nat)(al:Addr)(w:World):
  Calls prog 503 #[.slice a 0 c,.iface 340 (.pointer (some al))] w fun e w'=>e=.returned (.iface 704 (.pointer (some ⟨w.heap.size,0,none⟩)))/\
   w.alloc (.cells #[] 705)=w':=by
 go_enter func503,ntmps503;go_wp2;go_ret;exact⟨rfl,rfl⟩
theorem X6m(a:Addr)(w:World):
  Calls prog 529 #[.pointer (some a)] w fun e w'=>e=.returned (.bool false)/\w=w':=by
 go_enter func529,ntmps529;go_wp2;go_ret;exact⟨rfl,rfl⟩
theorem Z3t(a:OA)(n c:Nat)(w:World):
  Calls prog 501 #[.slice a n c] w fun e w'=>e=.returned (.int .i64 n)/\w=w':=by
 go_enter func501,ntmps501;go_wp2;go_ret;exact⟨rfl,rfl⟩
theorem z2l{P:Prop}(h:P:=by
 go_wp2_with (at_len;refine Q5z rfl _ 633 20 rfl underlying633 r M rfl hM ?_)
 go_ret;exact⟨rfl,rfl⟩):P:=h
theorem Z4f(r:Nat)(M:KV)(w:World)(hM:Q3z w r M):
  Calls prog 514 #[.map (some r)] w fun e w'=>e=.returned (.int .i64 M.length)/\w=w':=by
 go_enter func514,ntmps514;exact z2l
theorem Q1z(r:Nat)(M:KV)(w:World)(hM:Q3z w r M):
  Calls prog 506 #[.map (some r)] w fun e w'=>e=.returned (.bool ((M.length:Int)==0))/\w=w':=by
 go_enter func506,ntmps506;exact z2l
theorem Q0z{fn:Func}{tmps:Array Value}{R:Ending->World->Prop}{ds:List Deferred}(al:Addr)(x:Value)(h:Leaves prog fn tmps R ds .returning w):
  Leaves prog fn tmps R ({target:=.fn (.method "Free") #[],args:=#[.iface 340 (.pointer (some al)),x]}::ds) .returning w:=by
 refine leaves_cons (f:=388) (args:=#[.pointer (some al),x]) b0f (by simp[go_sem]) ?_;refine(free_d _ _ _ _).mono ?_;rintro e u' w'' ⟨rfl,rfl,rfl⟩;exact h
end
section

variable{v:Value}{i b k:Nat}{w':World}
theorem Z3y{c:Nat}(h:b≠c):(w.setCell ⟨c,i,none⟩ v).heap[b]?=w.heap[b]?:=Below.heap_setCell w _ v b h
structure Turn(b:Nat)(o:Obj)(w w':World):Prop where
 os:w'.os=w.os
 tape:w'.tape=w.tape
 output:w'.output=w.output
 size:w'.heap.size=w.heap.size
 self:w'.heap[b]?=some o
 block:∀k,k≠b->w'.heap[k]?=w.heap[k]?
variable{o:Obj}
theorem Turn.heap{x:Obj}(h:Turn b o w w')(e:w.heap[k]?=some x)(hn:k≠b):w'.heap[k]?=some x:=(h.block k hn).trans e
theorem Turn.cell(h:Turn b o w w'){j:Nat}(e:w.cell? ⟨k,j,none⟩=some v)(hn:k≠b):w'.cell? ⟨k,j,none⟩=some v:=
 (World.cell?_of_block (h.block k hn)).trans e
variable{J:Gh}
theorem Turn.step{M:Nat->Prop}{I:Gh}{w0:World}(t:Turn b o w w')(h:Step M I J w0 w)(hj:J b=none)(hm:b<w0.heap.size->M b):Step M I J w0 w':=
 ⟨t.os.trans h.os,t.tape.trans h.tape,t.output.trans h.output,by rw[t.size];exact h.size,
  fun k hk hn=>(t.block k (fun e=>hn (by subst e;exact hm hk))).trans (h.block k hk hn),h.le,h.old,
  fun k x e=>(t.block k (fun y=>by subst y;rw[hj]at e;cases e)).trans (h.inw k x e)⟩
theorem Turn.inw(t:Turn b o w w')(h:J.In w)(hj:J b=none):J.In w':=
 fun k x e=>(t.block k (fun y=>by subst y;rw[hj]at e;cases e)).trans (h k x e)
theorem X0e{c:Array Value}{t:TypeId}{f:Nat×Nat}(h:w.heap[b]?=some (.cells c t f))(n:Nat):
  Turn b (.cells (c.setIfInBounds i v) t f) w ((w.setCell ⟨b,i,none⟩ v).drewN n):=
 ⟨rfl,rfl,rfl,by simp[World.setCell,World.drewN],X0k h,fun k hk=>Z3y hk⟩

theorem next_t(r:Nat)(a:OA)(n c:Nat)(pv:Value)(i:Int)(w:World)(h:w.heap[r]?=some (.cells #[.slice a n c,pv,.int .i64 i] 707 (0,0)))(h1:-1<=i)(h2:i<=9223372036854775806)(hn:n<=9223372036854775807):
  Calls prog 527 #[pt r] w fun e w'=>e=.returned (.bool (decide (i+1<n)))/\Turn r (.cells #[.slice a n c,pv,.int .i64 (i+1)] 707 (0,0)) w w':=
 (next_x r a n c pv i w h h1 h2 hn).mono fun e w' ⟨k,he,hw⟩=>⟨he,by subst hw;simpa using X0e (i:=2) (v:=.int .i64 (i+1)) h k⟩
theorem item_t(r b o:Nat)(n c vb:Nat)(i:Nat)(u v:Value)(kk:Nat)(hk:AK v kk)(w:World)(h:w.heap[r]?=some (.cells #[.slice (some ⟨b,o,none⟩) n c,pt vb,.int .i64 i] 707 (0,0)))
  (hv:w.heap[vb]?=some (.cells #[u] 430 (0,0)))(hi:i<n)(hn:n<=9223372036854775807)(he:w.cell? ⟨b,o+i,none⟩=some v)(hbv:¬b=vb):
  Calls prog 526 #[pt r] w fun e w'=>e=.returned (.tuple #[.int .i64 i,.iface 339 (pt vb)])/\Turn vb (.cells #[v] 430 (0,0)) w w':=
 (item_x r b o n c vb i u v kk hk w h hv hi hn he hbv).mono fun e w' ⟨k,he,hw⟩=>⟨he,by subst hw;simpa using X0e (i:=0) (v:=v) hv k⟩
theorem reuse_t(b:Nat)(u v:Value)(k:Nat)(hv:AK v k)(w:World)(h:w.heap[b]?=some (.cells #[u] 430 (0,0))):
  Calls prog 167 #[pt b,v] w fun e w'=>e=.returned (.iface 339 (pt b))/\Turn b (.cells #[v] 430 (0,0)) w w':=
 (X6d b u v k hv w (by have:=Q0e h 0;simpa using this) (Q4d h 0)).mono fun e w' ⟨he,hw⟩=>⟨he,by subst hw;have:=X0e (i:=0) (v:=v) h 0;simp at this;exact this⟩
end
section

theorem Gh.In.none{I:Gh}{w:World}(h:I.In w){k:Nat}(hk:w.heap.size<=k):I k=none:=by
 cases e:I k with
 |none=>rfl
 |some o=>have:=h.lt e;omega
def EqH(I:Gh)(n:Nat):Prop:=∀(t u:Tr) (x y:Value) (al:Addr) (b c:Nat) (w:World),t.size<=n->I.In w->Q0r I x t->Q0r I y u->
 w.cell? ⟨b,0,none⟩=some x->w.cell? ⟨c,0,none⟩=some y->
 Calls prog 129 #[.iface 340 (.pointer (some al)),.iface 339 (pt b),.iface 339 (pt c)] w (Got Nix I w (.bool (eqT t u)))

theorem Q1l(t:Tr):0<t.size:=by cases t<;>simp[Tr.size]<;>omega
theorem Z1j{l:List Tr}{i:Nat}{t:Tr}(h:l[i]?=some t):t.size<=Z1p l:=by
 induction l generalizing i with
 |nil=>simp at h
 |cons a l ih=>
  cases i with
  |zero=>simp at h;subst h;simp[Z1p]
  |succ i=>simp at h;have:=ih h;simp[Z1p];omega
theorem eqL_length{ts us:List Tr}(h:ts.length≠us.length):eqL ts us=false:=by
 induction ts generalizing us with
 |nil=>cases us<;>simp[eqL]at h⊢
 |cons a ts ih=>cases us<;>simp[eqL]at h⊢;intro _;exact ih h
theorem listEq_any(I:Gh)(n:Nat)(H:EqH I n)(al:Addr)(lb b1 o1 c1 b2 o2 c2:Nat)(vs1 vs2:List Value)(ts us:List Tr)(w:World)(hi:I.In w)(hs:Z1p ts<=n)
  (hlb:w.cell? ⟨lb,0,none⟩=some (.slice (some ⟨b1,o1,none⟩) ts.length c1))
  (hl1:vs1.length=ts.length)(hn1:ts.length<=maxLen)(hc1:∀(i:Nat) v,vs1[i]?=some v->I.cell ⟨b1,o1+i,none⟩ v)(h1:∀(i:Nat) v t,vs1[i]?=some v->ts[i]?=some t->Q0r I v t)
  (hl2:vs2.length=us.length)(hn2:us.length<=maxLen)(hc2:∀(i:Nat) v,vs2[i]?=some v->I.cell ⟨b2,o2+i,none⟩ v)(h2:∀(i:Nat) v t,vs2[i]?=some v->us[i]?=some t->Q0r I v t):
  Calls prog 504 #[.iface 340 (.pointer (some al)),.iface 703 (pt lb),.iface 632 (.slice (some ⟨b2,o2,none⟩) us.length c2)] w (Got Nix I w (.bool (eqL ts us))):=by
 have hlbl:=World.block_lt_of_cell? w _ hlb;simp only at hlbl;by_cases hne:ts.length=us.length
 ·by_cases h0:us.length=0
  ·have e1:ts=[]:=List.length_eq_zero_iff.1 om;have e2:us=[]:=List.length_eq_zero_iff.1 h0;subst e1;subst e2;clear hc1 hc2 h1 h2 H;go_enter_defers func504,ntmps504;go_wp2_with (first|go_at_call 501;(with_reducible refine(Z3t _ _ _ _).mono ?_);rintro e w' ⟨rfl,rfl⟩|go_at_call 503;(with_reducible refine(X2b _ _ _ _).mono ?_);rintro e w' ⟨rfl,rfl⟩)
   refine wp_loop_rounds 1 ?_;rw[rounds_succ];go_wp2_with (go_at_call 529;(with_reducible refine(X6m _ _).mono ?_);rintro e w' ⟨rfl,rfl⟩)
   exact Q0z _ _ (Q0z _ _ ⟨_,results_tmp rfl _ _ _,rfl,((Step.refl hi).alloc _).alloc _⟩)
  ·unfold maxLen at hn1 hn2;have hb:((ts.length:Int) != us.length)=false:=by simp;omega
   have hz1:=Z8v (n:=ts.length) om;have hz2:=Z8v h0;have hnn:=Hd hne;have HC:=Hd (And.intro hc1 hc2);have HH:=Hd (And.intro h1 h2);have HL:=Hd (And.intro hl1 hl2);clear hne hc1 hc2 h1 h2 hl1 hl2;go_enter_defers func504,ntmps504;go_wp2_with (first|go_at_call 501;(with_reducible refine(Z3t _ _ _ _).mono ?_);rintro e w' ⟨rfl,rfl⟩|go_at_call 503;(first|(with_reducible refine(Z3x _ _ _ _ hz1 _).mono ?_)|(with_reducible refine(Z3x _ _ _ _ hz2 _).mono ?_));rintro e w' ⟨rfl,rfl⟩)
   have hz:∀k:Nat,w.heap.size+1+1+1=w.heap.size+3:=fun _=>rfl;clear hz;go_loopg [9] us.length (fun g _ wr=>∃(k:Nat) (u1 u2:Value),k<=us.length/\g=us.length -k/\Step Nix I I w wr/\
    wr.heap[w.heap.size]?=some (.cells #[u1] 430 (0,0))/\wr.heap[w.heap.size+1]?=some (.cells #[.slice (some ⟨b1,o1,none⟩) ts.length c1,.pointer (some ⟨w.heap.size,0,none⟩),.int .i64 ((k:Int) -1)] 707 (0,0))/\
    wr.heap[w.heap.size+1+1]?=some (.cells #[u2] 430 (0,0))/\wr.heap[w.heap.size+1+1+1]?=some (.cells #[.slice (some ⟨b2,o2,none⟩) us.length c2,.pointer (some ⟨w.heap.size+1+1,0,none⟩),.int .i64 ((k:Int) -1)] 707 (0,0))/\
    eqL (ts.drop k) (us.drop k)=eqL ts us)
   case atStart=>exact⟨0,.nilIface,.nilIface,Nat.zero_le _,rfl,(((((Step.refl hi).alloc _).alloc _).alloc _).alloc _),by repeat(first|(refine(Q0m ?_).trans ?_;·(simp only[World.size_alloc];omega))|(refine Q1b ?_;simp only[World.size_alloc])),by repeat(first|(refine(Q0m ?_).trans ?_;·(simp only[World.size_alloc];omega))|(refine Q1b ?_;simp only[World.size_alloc])),by repeat(first|(refine(Q0m ?_).trans ?_;·(simp only[World.size_alloc];omega))|(refine Q1b ?_;simp only[World.size_alloc])),by repeat(first|(refine(Q0m ?_).trans ?_;·(simp only[World.size_alloc];omega))|(refine Q1b ?_;simp only[World.size_alloc])),rfl⟩
   case round=>
    obtain⟨k,u1,u2,hk,hg,hst,q1,q2,q3,q4,he⟩:=hrel;have HE:=Hd (And.intro hg he);clear hg he;by_cases hkl:k<us.length
    ·obtain⟨hg,he⟩:=HE.out;obtain⟨hc1,hc2⟩:=HC.out;obtain⟨h1,h2⟩:=HH.out;obtain⟨hl1,hl2⟩:=HL.out;have hnn':=hnn.out;obtain⟨x,hx⟩:∃x,vs1[k]?=some x:=gx om;obtain⟨t,ht⟩:∃x,ts[k]?=some x:=gx om;obtain⟨y,hy⟩:∃x,vs2[k]?=some x:=gx om;obtain⟨u,hu⟩:∃x,us[k]?=some x:=gx om;have ax:=h1 k x t hx ht;have ay:=h2 k y u hy hu;have cx:=hc1 k x hx;have cy:=hc2 k y hy;rw[Q1h ht,Q1h hu]at he;simp only[eqL]at he;have hsz:=Z1j ht;have HE2:=Hd he;clear he hc1 hc2 h1 h2 hl1 hl2 hx ht hy hu;have hkt:k<ts.length:=by omega
     clear hnn' hg;have n32:w.heap.size+1+1+1≠w.heap.size+1:=by omega
     have n02:w.heap.size≠w.heap.size+1:=by omega
     have n12:w.heap.size+1+1≠w.heap.size+1:=by omega
     have n23:w.heap.size+1≠w.heap.size+1+1+1:=by omega
     have n03:w.heap.size≠w.heap.size+1+1+1:=by omega
     have n13:w.heap.size+1+1≠w.heap.size+1+1+1:=by omega
     have n20:w.heap.size+1≠w.heap.size:=by omega
     have n30:w.heap.size+1+1+1≠w.heap.size:=by omega
     have n10:w.heap.size+1+1≠w.heap.size:=by omega
     have n21:w.heap.size+1≠w.heap.size+1+1:=by omega
     have n31:w.heap.size+1+1+1≠w.heap.size+1+1:=by omega
     have n01:w.heap.size≠w.heap.size+1+1:=by omega
     have ek:(k:Int) -1+1=k:=by omega
     go_wp2_with fail
     refine(next_t _ _ _ _ _ _ _ q2 om om om).mono ?_;rintro e w1 ⟨rfl,t1⟩;rw[ek]at t1⊢;go_wp2_with fail
     refine(next_t _ _ _ _ _ _ _ (t1.heap q4 n32) om om om).mono ?_;rintro e w2 ⟨rfl,t2⟩;rw[ek]at t2⊢;have st2:=t2.step (t1.step hst (hi.none om) om) (hi.none om) om;have r1:=t2.heap t1.self n23;have r3:=t2.self;have r0:=t2.heap (t1.heap q1 n02) n03;have r2:=t2.heap (t1.heap q3 n12) n13;clear t1 t2 q1 q2 q3 q4 hst;go_wp2_with fail
     refine(item_t _ _ _ _ _ _ _ _ x _ ax.ak _ r1 r0 hkt om (cx.at st2.inw) (by have:=cx.lt hi;omega)).mono ?_;rintro e w3 ⟨rfl,t3⟩;have st3:=t3.step st2 (hi.none om) om;go_wp2_with fail
     refine(item_t _ _ _ _ _ _ _ _ y _ ay.ak _ (t3.heap r3 n30) (t3.heap r2 n10) hkl om (cy.at st3.inw) (by have:=cy.lt hi;omega)).mono ?_;rintro e w4 ⟨rfl,t4⟩;have st4:=t4.step st3 (hi.none om) om;have c1:=Q0e (t4.heap t3.self n01) 0;have c2:=Q0e t4.self 0;simp at c1 c2;have s1:=t4.heap (t3.heap r1 n20) n21;have s3:=t4.heap (t3.heap r3 n30) n31;have s0:=t4.heap t3.self n01;have s2:=t4.self;clear t3 t4 r0 r1 r2 r3 st2 st3;go_wp2_with fail
     refine(H t u x y al _ _ _ om st4.inw ax ay c1 c2).mono ?_;rintro e w5 ⟨rfl,st5⟩;have st6:=st4.trans0 st5;have w0:=st5.heap s0 (fun x=>x);have w1':=st5.heap s1 (fun x=>x);have w2':=st5.heap s2 (fun x=>x);have w3':=st5.heap s3 (fun x=>x);have hE:=HE2.out;clear st4 st5 s0 s1 s2 s3 c1 c2;cases hb:eqT t u
     ·rw[hb]at hE;have hF:=Hd (show eqL ts us=false by simpa using hE.symm);clear hE HE2 hb;go_wp2_with fail
      exact Q0z _ _ (Q0z _ _ ⟨_,results_tmp rfl _ _ _,by rw[hF.out];rfl,st6⟩)
     ·rw[hb]at hE;have hF:=Hd (show eqL (ts.drop (k+1)) (us.drop (k+1))=eqL ts us by simpa using hE);clear hE HE2 hb;go_wp2_with fail
      go_roundg (us.length -(k+1))
      case measure=>have:=HE.out.1;omega
      case rel=>exact⟨k+1,x,y,by omega,rfl,st6,w0,by rw[show((k+1:Nat):Int) -1=k by omega];exact w1',w2',by rw[show((k+1:Nat):Int) -1=k by omega];exact w3',hF.out⟩
    ·obtain⟨hg,he⟩:=HE.out;have hnn':=hnn.out;have hkt:¬k<ts.length:=by omega
     have hF:eqL ts us=true:=by
      rw[<-he,List.drop_of_length_le om,List.drop_of_length_le om];rfl
     have hF:=Hd hF;clear hnn' hg he;have n20:w.heap.size+1≠w.heap.size:=by omega
     have ek:(k:Int) -1+1=k:=by omega
     go_wp2_with fail
     refine(next_t _ _ _ _ _ _ _ q2 om om om).mono ?_;rintro e w1 ⟨rfl,t1⟩;rw[ek]at t1⊢;have st1:=t1.step hst (hi.none om) om;clear t1 q1 q2 q3 q4 hst;go_wp2_with fail
     exact Q0z _ _ (Q0z _ _ ⟨_,results_tmp rfl _ _ _,by rw[hF.out];rfl,st1⟩)
 ·have hb:((ts.length:Int) != us.length)=true:=by simp;omega
  rw[eqL_length hne];clear hne hc1 hc2 h1 h2 H hl1 hl2;go_enter_defers func504,ntmps504;go_wp2_with (go_at_call 501;(with_reducible refine(Z3t _ _ _ _).mono ?_);rintro e w' ⟨rfl,rfl⟩)
  exact⟨_,results_tmp rfl _ _ _,rfl,Step.refl hi⟩
end
end Go.Proofs.YtbmklgemmjgjfaaGreat
