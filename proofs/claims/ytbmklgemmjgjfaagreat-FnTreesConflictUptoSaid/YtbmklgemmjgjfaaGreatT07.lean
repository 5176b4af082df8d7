/- Part 7: EqI, EqF. -/
import Derived.Test.YtbmklgemmjgjfaaGreatT05
namespace Go.Proofs.YtbmklgemmjgjfaaGreat
open Go.RowKit Go.Maps Tryz
set_option linter.unusedVariables false
set_option linter.unusedSimpArgs false
set_option maxRecDepth 100000
set_option maxHeartbeats 8000000
section
theorem eq_int(I:Gh)(a:Int){y:Value}{u:Tr}(hy:Q0r I y u)(al:Addr)(b c:Nat)(w:World)(hi:I.In w)
  (hb:w.cell? ⟨b,0,none⟩=some (.iface 2 (.int .i64 a)))(hc:w.cell? ⟨c,0,none⟩=some y)(hbl:b<w.heap.size)(hcl:c<w.heap.size):
  Calls prog 129 #[.iface 340 (.pointer (some al)),.iface 339 (pt b),.iface 339 (pt c)] w (Got Nix I w (.bool (eqT (.int a) u))):=by
 have hx:=AK.int a;have hk:=hy.ak;cases hy;all_goals
  simp only[Tr.kind]at hk
  go_enter_defers func129,ntmps129
  go_wp2_with (refine qa ?_)
  refine⟨_,results_tmp rfl _ _ _,?_,?_⟩
  ·simp[eqT,feq,i2f,seq]
  ·exact e0g
end
section
theorem eq_flt(I:Gh)(a:Nat){y:Value}{u:Tr}(hy:Q0r I y u)(al:Addr)(b c:Nat)(w:World)(hi:I.In w)
  (hb:w.cell? ⟨b,0,none⟩=some (.iface 31 (.float .f64 a)))(hc:w.cell? ⟨c,0,none⟩=some y)(hbl:b<w.heap.size)(hcl:c<w.heap.size):
  Calls prog 129 #[.iface 340 (.pointer (some al)),.iface 339 (pt b),.iface 339 (pt c)] w (Got Nix I w (.bool (eqT (.flt a) u))):=by
 have hx:=AK.float a;have hk:=hy.ak;cases hy;all_goals
  simp only[Tr.kind]at hk
  go_enter_defers func129,ntmps129
  go_wp2_with (refine qa ?_)
  refine⟨_,results_tmp rfl _ _ _,?_,?_⟩
  ·simp[eqT,feq,i2f,seq]
  ·exact e0g
end
end Go.Proofs.YtbmklgemmjgjfaaGreat
