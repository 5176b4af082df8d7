/- Part 11: EqN, Equ. -/
import Derived.Test.YtbmklgemmjgjfaaGreatT06
import Derived.Test.YtbmklgemmjgjfaaGreatT07
import Derived.Test.YtbmklgemmjgjfaaGreatT10
namespace Go.Proofs.YtbmklgemmjgjfaaGreat
open Go.RowKit Go.Maps Tryz
set_option linter.unusedVariables false
set_option linter.unusedSimpArgs false
set_option maxRecDepth 100000
set_option maxHeartbeats 8000000
section
theorem eq_null(I:Gh){y:Value}{u:Tr}(hy:Q0r I y u)(al:Addr)(b c:Nat)(w:World)(hi:I.In w)
  (hb:w.cell? ⟨b,0,none⟩=some (.nilIface))(hc:w.cell? ⟨c,0,none⟩=some y)(hbl:b<w.heap.size)(hcl:c<w.heap.size):
  Calls prog 129 #[.iface 340 (.pointer (some al)),.iface 339 (pt b),.iface 339 (pt c)] w (Got Nix I w (.bool (eqT (.null) u))):=by
 have hx:=AK.null;have hk:=hy.ak;cases hy;all_goals
  simp only[Tr.kind]at hk
  go_enter_defers func129,ntmps129
  go_wp2_with (refine qa ?_)
  refine⟨_,results_tmp rfl _ _ _,?_,?_⟩
  ·simp[eqT,feq,i2f,seq]
  ·exact e0g
end
section
theorem eqH(I:Gh):∀n,EqH I n:=by
 intro n;induction n with
 |zero=>intro t u x y al b c w ht;have:=Q1l t;omega
 |succ n ih=>
  intro t u x y al b c w ht hi hx hy hb hc;have hbl:=World.block_lt_of_cell? w _ hb;have hcl:=World.block_lt_of_cell? w _ hc;cases hx with
  |null=>exact eq_null I hy al b c w hi hb hc hbl hcl
  |bool a=>exact eq_bool I a hy al b c w hi hb hc hbl hcl
  |int a=>exact eq_int I a hy al b c w hi hb hc hbl hcl
  |flt a=>exact eq_flt I a hy al b c w hi hb hc hbl hcl
  |str a=>exact eq_str I a hy al b c w hi hb hc hbl hcl
  |list b1 o1 c1 vs ts hl hn hv h=>exact eq_list I n ih b1 o1 c1 vs ts (by simp[Tr.size]at ht;omega) hl hn hv h hy al b c w hi hb hc hbl hcl
  |map r1 vs ts hm hk h=>exact eq_map I n ih r1 vs ts (by simp[Tr.size]at ht;omega) hm hk h hy al b c w hi hb hc hbl hcl
theorem X0d(I:Gh)(t u:Tr)(x y:Value)(al:Addr)(b c:Nat)(w:World)(hi:I.In w)(hx:Q0r I x t)(hy:Q0r I y u)
  (hb:w.cell? ⟨b,0,none⟩=some x)(hc:w.cell? ⟨c,0,none⟩=some y):
  Calls prog 129 #[.iface 340 (.pointer (some al)),.iface 339 (pt b),.iface 339 (pt c)] w (Got Nix I w (.bool (eqT t u))):=
 eqH I t.size t u x y al b c w (Nat.le_refl _) hi hx hy hb hc
end
end Go.Proofs.YtbmklgemmjgjfaaGreat
