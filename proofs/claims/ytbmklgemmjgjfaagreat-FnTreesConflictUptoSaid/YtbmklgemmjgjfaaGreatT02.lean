/- Part 2: Fac. -/
import Derived.Test.YtbmklgemmjgjfaaGreatProg
import Derived.Test.YtbmklgemmjgjfaaGreatT00
namespace Go.Proofs.YtbmklgemmjgjfaaGreat
open Go.RowKit Go.Maps Tryz
set_option linter.unusedVariables false
set_option linter.unusedSimpArgs false
set_option maxRecDepth 100000
set_option maxHeartbeats 400000
section
def Z4b:TypeDesc->Bool|.interface _=>false|_=>true
variable{d:TypeDesc}{t a:TypeId}{P:Program}
theorem Z7a(hu:P.underlying t=some d)(hd:Z4b d=true)(v:Value)(xT:TypeId)(w:World):
  (Instr.typeAssert (.iface t v) xT t true).run P w=.ok (.tuple #[v,.bool true]) w:=by
 cases d<;>simp[Instr.typeAssert,run_underlying hu,Z4b]at hd⊢
theorem X1j(hu:P.underlying t=some d)(hd:Z4b d=true)(v:Value)(xT:TypeId)(w:World):
  (Instr.typeAssert (.iface t v) xT t false).run P w=.ok v w:=by
 cases d<;>simp[Instr.typeAssert,run_underlying hu,Z4b]at hd⊢
variable{z:Value}
theorem Q4m(hu:P.underlying a=some d)(hd:Z4b d=true)
  (hz:(P.info? a).map (·.zero)=some (some z))(t:TypeId)(hne:t≠a)(v:Value)(xT:TypeId)(w:World):
  (Instr.typeAssert (.iface t v) xT a true).run P w=.ok (.tuple #[z,.bool false]) w:=by
 obtain⟨j,hj,hz'⟩:=Option.map_eq_some_iff.1 hz;cases d<;>simp[Instr.typeAssert,run_underlying hu,hne,zeroValue,typeInfo,hj,hz',Z4b]at hd⊢
theorem Z5h(hu:P.underlying a=some d)(hd:Z4b d=true)
  (hz:(P.info? a).map (·.zero)=some (some z))(xT:TypeId)(w:World):
  (Instr.typeAssert .nilIface xT a true).run P w=.ok (.tuple #[z,.bool false]) w:=by
 obtain⟨j,hj,hz'⟩:=Option.map_eq_some_iff.1 hz;cases d<;>simp[Instr.typeAssert,run_underlying hu,zeroValue,typeInfo,hj,hz',Z4b]at hd⊢

@[go_sem] theorem taa3m(t:TypeId)(h:t≠3)(v:Value)(xT:TypeId)(w:World):(Instr.typeAssert (.iface t v) xT 3 true).run prog w=.ok (.tuple #[.int .i64 0,.bool false]) w:=Q4m underlying3 rfl kr t h v xT w
@[go_sem] theorem taa622m(t:TypeId)(h:t≠622)(v:Value)(xT:TypeId)(w:World):(Instr.typeAssert (.iface t v) xT 622 true).run prog w=.ok (.tuple #[.int .i8 0,.bool false]) w:=Q4m underlying622 rfl kr t h v xT w
@[go_sem] theorem taa624m(t:TypeId)(h:t≠624)(v:Value)(xT:TypeId)(w:World):(Instr.typeAssert (.iface t v) xT 624 true).run prog w=.ok (.tuple #[.int .i16 0,.bool false]) w:=Q4m underlying624 rfl kr t h v xT w
@[go_sem] theorem taa21m(t:TypeId)(h:t≠21)(v:Value)(xT:TypeId)(w:World):(Instr.typeAssert (.iface t v) xT 21 true).run prog w=.ok (.tuple #[.int .i32 0,.bool false]) w:=Q4m underlying21 rfl kr t h v xT w
@[go_sem] theorem taa2(v:Value)(xT:TypeId)(w:World):(Instr.typeAssert (.iface 2 v) xT 2 true).run prog w=.ok (.tuple #[v,.bool true]) w:=Z7a underlying2 rfl v xT w
@[go_sem] theorem taa2o(v:Value)(xT:TypeId)(w:World):(Instr.typeAssert (.iface 2 v) xT 2 false).run prog w=.ok v w:=X1j underlying2 rfl v xT w
@[go_sem] theorem taa2m(t:TypeId)(h:t≠2)(v:Value)(xT:TypeId)(w:World):(Instr.typeAssert (.iface t v) xT 2 true).run prog w=.ok (.tuple #[.int .i64 0,.bool false]) w:=Q4m underlying2 rfl kr t h v xT w
@[go_sem] theorem taa2n(xT:TypeId)(w:World):(Instr.typeAssert .nilIface xT 2 true).run prog w=.ok (.tuple #[.int .i64 0,.bool false]) w:=Z5h underlying2 rfl kr xT w
@[go_sem] theorem taa507m(t:TypeId)(h:t≠507)(v:Value)(xT:TypeId)(w:World):(Instr.typeAssert (.iface t v) xT 507 true).run prog w=.ok (.tuple #[.int .u64 0,.bool false]) w:=Q4m underlying507 rfl kr t h v xT w
@[go_sem] theorem taa5m(t:TypeId)(h:t≠5)(v:Value)(xT:TypeId)(w:World):(Instr.typeAssert (.iface t v) xT 5 true).run prog w=.ok (.tuple #[.int .u8 0,.bool false]) w:=Q4m underlying5 rfl kr t h v xT w
@[go_sem] theorem taa629m(t:TypeId)(h:t≠629)(v:Value)(xT:TypeId)(w:World):(Instr.typeAssert (.iface t v) xT 629 true).run prog w=.ok (.tuple #[.int .u16 0,.bool false]) w:=Q4m underlying629 rfl kr t h v xT w
@[go_sem] theorem taa556m(t:TypeId)(h:t≠556)(v:Value)(xT:TypeId)(w:World):(Instr.typeAssert (.iface t v) xT 556 true).run prog w=.ok (.tuple #[.int .u32 0,.bool false]) w:=Q4m underlying556 rfl kr t h v xT w
@[go_sem] theorem taa620m(t:TypeId)(h:t≠620)(v:Value)(xT:TypeId)(w:World):(Instr.typeAssert (.iface t v) xT 620 true).run prog w=.ok (.tuple #[.float .f32 0,.bool false]) w:=Q4m underlying620 rfl kr t h v xT w
@[go_sem] theorem taa4(v:Value)(xT:TypeId)(w:World):(Instr.typeAssert (.iface 4 v) xT 4 true).run prog w=.ok (.tuple #[v,.bool true]) w:=Z7a underlying4 rfl v xT w
@[go_sem] theorem taa4o(v:Value)(xT:TypeId)(w:World):(Instr.typeAssert (.iface 4 v) xT 4 false).run prog w=.ok v w:=X1j underlying4 rfl v xT w
@[go_sem] theorem taa4m(t:TypeId)(h:t≠4)(v:Value)(xT:TypeId)(w:World):(Instr.typeAssert (.iface t v) xT 4 true).run prog w=.ok (.tuple #[.bool false,.bool false]) w:=Q4m underlying4 rfl kr t h v xT w
@[go_sem] theorem taa4n(xT:TypeId)(w:World):(Instr.typeAssert .nilIface xT 4 true).run prog w=.ok (.tuple #[.bool false,.bool false]) w:=Z5h underlying4 rfl kr xT w
@[go_sem] theorem taa9(v:Value)(xT:TypeId)(w:World):(Instr.typeAssert (.iface 9 v) xT 9 true).run prog w=.ok (.tuple #[v,.bool true]) w:=Z7a underlying9 rfl v xT w
@[go_sem] theorem taa9o(v:Value)(xT:TypeId)(w:World):(Instr.typeAssert (.iface 9 v) xT 9 false).run prog w=.ok v w:=X1j underlying9 rfl v xT w
@[go_sem] theorem taa9m(t:TypeId)(h:t≠9)(v:Value)(xT:TypeId)(w:World):(Instr.typeAssert (.iface t v) xT 9 true).run prog w=.ok (.tuple #[.string ⟨#[]⟩,.bool false]) w:=Q4m underlying9 rfl kr t h v xT w
@[go_sem] theorem taa9n(xT:TypeId)(w:World):(Instr.typeAssert .nilIface xT 9 true).run prog w=.ok (.tuple #[.string ⟨#[]⟩,.bool false]) w:=Z5h underlying9 rfl kr xT w
@[go_sem] theorem taa31(v:Value)(xT:TypeId)(w:World):(Instr.typeAssert (.iface 31 v) xT 31 true).run prog w=.ok (.tuple #[v,.bool true]) w:=Z7a underlying31 rfl v xT w
@[go_sem] theorem taa31o(v:Value)(xT:TypeId)(w:World):(Instr.typeAssert (.iface 31 v) xT 31 false).run prog w=.ok v w:=X1j underlying31 rfl v xT w
@[go_sem] theorem taa31m(t:TypeId)(h:t≠31)(v:Value)(xT:TypeId)(w:World):(Instr.typeAssert (.iface t v) xT 31 true).run prog w=.ok (.tuple #[.float .f64 0,.bool false]) w:=Q4m underlying31 rfl kr t h v xT w
@[go_sem] theorem taa31n(xT:TypeId)(w:World):(Instr.typeAssert .nilIface xT 31 true).run prog w=.ok (.tuple #[.float .f64 0,.bool false]) w:=Z5h underlying31 rfl kr xT w
@[go_sem] theorem taa282(v:Value)(xT:TypeId)(w:World):(Instr.typeAssert (.iface 282 v) xT 282 true).run prog w=.ok (.tuple #[v,.bool true]) w:=Z7a underlying282 rfl v xT w
@[go_sem] theorem taa282o(v:Value)(xT:TypeId)(w:World):(Instr.typeAssert (.iface 282 v) xT 282 false).run prog w=.ok v w:=X1j underlying282 rfl v xT w
@[go_sem] theorem taa282m(t:TypeId)(h:t≠282)(v:Value)(xT:TypeId)(w:World):(Instr.typeAssert (.iface t v) xT 282 true).run prog w=.ok (.tuple #[sn,.bool false]) w:=Q4m underlying282 rfl kr t h v xT w
@[go_sem] theorem taa282n(xT:TypeId)(w:World):(Instr.typeAssert .nilIface xT 282 true).run prog w=.ok (.tuple #[sn,.bool false]) w:=Z5h underlying282 rfl kr xT w
@[go_sem] theorem taa283(v:Value)(xT:TypeId)(w:World):(Instr.typeAssert (.iface 283 v) xT 283 true).run prog w=.ok (.tuple #[v,.bool true]) w:=Z7a underlying283 rfl v xT w
@[go_sem] theorem taa283m(t:TypeId)(h:t≠283)(v:Value)(xT:TypeId)(w:World):(Instr.typeAssert (.iface t v) xT 283 true).run prog w=.ok (.tuple #[.map none,.bool false]) w:=Q4m underlying283 rfl kr t h v xT w
@[go_sem] theorem taa283n(xT:TypeId)(w:World):(Instr.typeAssert .nilIface xT 283 true).run prog w=.ok (.tuple #[.map none,.bool false]) w:=Z5h underlying283 rfl kr xT w
@[go_sem] theorem me339_AsBool(n:Nat)(b o:Nat)(w:World):(method (n+1) 339 (.pointer (some ⟨b,o,none⟩)) "AsBool").run prog w=(do let x<-loadVar 430 ⟨b,o,none⟩;pure (372,x)).run prog w:=by kernel_rfl
@[go_sem] theorem me339_AsFloat(n:Nat)(b o:Nat)(w:World):(method (n+1) 339 (.pointer (some ⟨b,o,none⟩)) "AsFloat").run prog w=(do let x<-loadVar 430 ⟨b,o,none⟩;pure (373,x)).run prog w:=by kernel_rfl
@[go_sem] theorem me339_AsInt(n:Nat)(b o:Nat)(w:World):(method (n+1) 339 (.pointer (some ⟨b,o,none⟩)) "AsInt").run prog w=(do let x<-loadVar 430 ⟨b,o,none⟩;pure (374,x)).run prog w:=by kernel_rfl
@[go_sem] theorem me339_AsListUsing(n:Nat)(b o:Nat)(w:World):(method (n+1) 339 (.pointer (some ⟨b,o,none⟩)) "AsListUsing").run prog w=(do let x<-loadVar 430 ⟨b,o,none⟩;pure (376,x)).run prog w:=by kernel_rfl
@[go_sem] theorem me339_AsMap(n:Nat)(b o:Nat)(w:World):(method (n+1) 339 (.pointer (some ⟨b,o,none⟩)) "AsMap").run prog w=(do let x<-loadVar 430 ⟨b,o,none⟩;pure (377,x)).run prog w:=by kernel_rfl
@[go_sem] theorem me339_AsMapUsing(n:Nat)(b o:Nat)(w:World):(method (n+1) 339 (.pointer (some ⟨b,o,none⟩)) "AsMapUsing").run prog w=(do let x<-loadVar 430 ⟨b,o,none⟩;pure (378,x)).run prog w:=by kernel_rfl
@[go_sem] theorem me339_AsString(n:Nat)(b o:Nat)(w:World):(method (n+1) 339 (.pointer (some ⟨b,o,none⟩)) "AsString").run prog w=(do let x<-loadVar 430 ⟨b,o,none⟩;pure (379,x)).run prog w:=by kernel_rfl
@[go_sem] theorem me339_IsBool(n:Nat)(b o:Nat)(w:World):(method (n+1) 339 (.pointer (some ⟨b,o,none⟩)) "IsBool").run prog w=(do let x<-loadVar 430 ⟨b,o,none⟩;pure (380,x)).run prog w:=by kernel_rfl
@[go_sem] theorem me339_IsFloat(n:Nat)(b o:Nat)(w:World):(method (n+1) 339 (.pointer (some ⟨b,o,none⟩)) "IsFloat").run prog w=(do let x<-loadVar 430 ⟨b,o,none⟩;pure (381,x)).run prog w:=by kernel_rfl
@[go_sem] theorem me339_IsInt(n:Nat)(b o:Nat)(w:World):(method (n+1) 339 (.pointer (some ⟨b,o,none⟩)) "IsInt").run prog w=(do let x<-loadVar 430 ⟨b,o,none⟩;pure (382,x)).run prog w:=by kernel_rfl
@[go_sem] theorem me339_IsList(n:Nat)(b o:Nat)(w:World):(method (n+1) 339 (.pointer (some ⟨b,o,none⟩)) "IsList").run prog w=(do let x<-loadVar 430 ⟨b,o,none⟩;pure (383,x)).run prog w:=by kernel_rfl
@[go_sem] theorem me339_IsMap(n:Nat)(b o:Nat)(w:World):(method (n+1) 339 (.pointer (some ⟨b,o,none⟩)) "IsMap").run prog w=(do let x<-loadVar 430 ⟨b,o,none⟩;pure (384,x)).run prog w:=by kernel_rfl
@[go_sem] theorem me339_IsNull(n:Nat)(b o:Nat)(w:World):(method (n+1) 339 (.pointer (some ⟨b,o,none⟩)) "IsNull").run prog w=(do let x<-loadVar 430 ⟨b,o,none⟩;pure (385,x)).run prog w:=by kernel_rfl
@[go_sem] theorem me339_IsString(n:Nat)(b o:Nat)(w:World):(method (n+1) 339 (.pointer (some ⟨b,o,none⟩)) "IsString").run prog w=(do let x<-loadVar 430 ⟨b,o,none⟩;pure (386,x)).run prog w:=by kernel_rfl
@[go_sem] theorem X7q(n:Nat)(b o:Nat)(w:World):(method (n+1) 339 (.pointer (some ⟨b,o,none⟩)) "Unstructured").run prog w=(do let x<-loadVar 430 ⟨b,o,none⟩;pure (387,x)).run prog w:=by kernel_rfl
@[go_sem] theorem me633_Empty(n:Nat)(r:Option Nat)(w:World):(method (n+1) 633 (.map r) "Empty").run prog w=.ok (506,.map r) w:=by kernel_rfl
@[go_sem] theorem me633_EqualsUsing(n:Nat)(r:Option Nat)(w:World):(method (n+1) 633 (.map r) "EqualsUsing").run prog w=.ok (508,.map r) w:=by kernel_rfl
@[go_sem] theorem me633_GetUsing(n:Nat)(r:Option Nat)(w:World):(method (n+1) 633 (.map r) "GetUsing").run prog w=.ok (510,.map r) w:=by kernel_rfl
@[go_sem] theorem me633_Has(n:Nat)(r:Option Nat)(w:World):(method (n+1) 633 (.map r) "Has").run prog w=.ok (511,.map r) w:=by kernel_rfl
@[go_sem] theorem me633_Iterate(n:Nat)(r:Option Nat)(w:World):(method (n+1) 633 (.map r) "Iterate").run prog w=.ok (512,.map r) w:=by kernel_rfl
@[go_sem] theorem X7m(n:Nat)(r:Option Nat)(w:World):(method (n+1) 633 (.map r) "IterateUsing").run prog w=.ok (513,.map r) w:=by kernel_rfl
@[go_sem] theorem me633_Length(n:Nat)(r:Option Nat)(w:World):(method (n+1) 633 (.map r) "Length").run prog w=.ok (514,.map r) w:=by kernel_rfl
@[go_sem] theorem me633_ZipUsing(n:Nat)(r:Option Nat)(w:World):(method (n+1) 633 (.map r) "ZipUsing").run prog w=.ok (517,.map r) w:=by kernel_rfl
@[go_sem] theorem me632_AtUsing(n:Nat)(a:OA)(l c:Nat)(w:World):(method (n+1) 632 (.slice a l c) "AtUsing").run prog w=.ok (498,.slice a l c) w:=by kernel_rfl
@[go_sem] theorem me632_EqualsUsing(n:Nat)(a:OA)(l c:Nat)(w:World):(method (n+1) 632 (.slice a l c) "EqualsUsing").run prog w=.ok (500,.slice a l c) w:=by kernel_rfl
@[go_sem] theorem me632_Length(n:Nat)(a:OA)(l c:Nat)(w:World):(method (n+1) 632 (.slice a l c) "Length").run prog w=.ok (501,.slice a l c) w:=by kernel_rfl
@[go_sem] theorem me632_RangeUsing(n:Nat)(a:OA)(l c:Nat)(w:World):(method (n+1) 632 (.slice a l c) "RangeUsing").run prog w=.ok (503,.slice a l c) w:=by kernel_rfl
@[go_sem] theorem me703_Length(n:Nat)(b o:Nat)(w:World):(method (n+1) 703 (.pointer (some ⟨b,o,none⟩)) "Length").run prog w=(do let x<-loadVar 632 ⟨b,o,none⟩;pure (501,x)).run prog w:=by kernel_rfl
@[go_sem] theorem me703_RangeUsing(n:Nat)(b o:Nat)(w:World):(method (n+1) 703 (.pointer (some ⟨b,o,none⟩)) "RangeUsing").run prog w=(do let x<-loadVar 632 ⟨b,o,none⟩;pure (503,x)).run prog w:=by kernel_rfl
@[go_sem] theorem me340_Free(n:Nat)(a:Addr)(w:World):(method (n+1) 340 (.pointer (some a)) "Free").run prog w=.ok (388,.pointer (some a)) w:=by kernel_rfl
@[go_sem] theorem Z2s(n:Nat)(a:Addr)(w:World):(method (n+1) 340 (.pointer (some a)) "pub-coparcener/pub/structuredmerge/value.allocListUnstructuredRange").run prog w=.ok (389,.pointer (some a)) w:=by kernel_rfl
@[go_sem] theorem Z4l(n:Nat)(a:Addr)(w:World):(method (n+1) 340 (.pointer (some a)) "pub-coparcener/pub/structuredmerge/value.allocValueUnstructured").run prog w=.ok (166,.pointer (some a)) w:=by kernel_rfl
@[go_sem] theorem me704_Next(n:Nat)(a:Addr)(w:World):(method (n+1) 704 (.pointer (some a)) "Next").run prog w=.ok (529,.pointer (some a)) w:=by kernel_rfl
@[go_sem] theorem me701_Item(n:Nat)(a:Addr)(w:World):(method (n+1) 701 (.pointer (some a)) "Item").run prog w=.ok (526,.pointer (some a)) w:=by kernel_rfl
@[go_sem] theorem me701_Next(n:Nat)(a:Addr)(w:World):(method (n+1) 701 (.pointer (some a)) "Next").run prog w=.ok (527,.pointer (some a)) w:=by kernel_rfl
@[go_sem] theorem me415_doList(n:Nat)(a:Addr)(w:World):(method (n+1) 415 (.pointer (some a)) "pub-coparcener/pub/structuredmerge/typed.doList").run prog w=.ok (427,.pointer (some a)) w:=by kernel_rfl
@[go_sem] theorem me415_doMap(n:Nat)(a:Addr)(w:World):(method (n+1) 415 (.pointer (some a)) "pub-coparcener/pub/structuredmerge/typed.doMap").run prog w=.ok (428,.pointer (some a)) w:=by kernel_rfl
@[go_sem] theorem me415_doScalar(n:Nat)(a:Addr)(w:World):(method (n+1) 415 (.pointer (some a)) "pub-coparcener/pub/structuredmerge/typed.doScalar").run prog w=.ok (429,.pointer (some a)) w:=by kernel_rfl
@[go_sem] theorem me456_doList(n:Nat)(a:Addr)(w:World):(method (n+1) 456 (.pointer (some a)) "pub-coparcener/pub/structuredmerge/typed.doList").run prog w=.ok (459,.pointer (some a)) w:=by kernel_rfl
@[go_sem] theorem me456_doMap(n:Nat)(a:Addr)(w:World):(method (n+1) 456 (.pointer (some a)) "pub-coparcener/pub/structuredmerge/typed.doMap").run prog w=.ok (460,.pointer (some a)) w:=by kernel_rfl
@[go_sem] theorem me456_doScalar(n:Nat)(a:Addr)(w:World):(method (n+1) 456 (.pointer (some a)) "pub-coparcener/pub/structuredmerge/typed.doScalar").run prog w=.ok (461,.pointer (some a)) w:=by kernel_rfl
@[go_sem] theorem me475_doList(n:Nat)(a:Addr)(w:World):(method (n+1) 475 (.pointer (some a)) "pub-coparcener/pub/structuredmerge/typed.doList").run prog w=.ok (477,.pointer (some a)) w:=by kernel_rfl
@[go_sem] theorem me475_doMap(n:Nat)(a:Addr)(w:World):(method (n+1) 475 (.pointer (some a)) "pub-coparcener/pub/structuredmerge/typed.doMap").run prog w=.ok (478,.pointer (some a)) w:=by kernel_rfl
@[go_sem] theorem me475_doScalar(n:Nat)(a:Addr)(w:World):(method (n+1) 475 (.pointer (some a)) "pub-coparcener/pub/structuredmerge/typed.doScalar").run prog w=.ok (479,.pointer (some a)) w:=by kernel_rfl
@[go_sem] theorem me370_doList(n:Nat)(a:Addr)(w:World):(method (n+1) 370 (.pointer (some a)) "pub-coparcener/pub/structuredmerge/typed.doList").run prog w=.ok (393,.pointer (some a)) w:=by kernel_rfl
@[go_sem] theorem me370_doMap(n:Nat)(a:Addr)(w:World):(method (n+1) 370 (.pointer (some a)) "pub-coparcener/pub/structuredmerge/typed.doMap").run prog w=.ok (394,.pointer (some a)) w:=by kernel_rfl
@[go_sem] theorem me370_doScalar(n:Nat)(a:Addr)(w:World):(method (n+1) 370 (.pointer (some a)) "pub-coparcener/pub/structuredmerge/typed.doScalar").run prog w=.ok (395,.pointer (some a)) w:=by kernel_rfl
@[go_sem] theorem me410_doMap(n:Nat)(a:Addr)(w:World):(method (n+1) 410 (.pointer (some a)) "pub-coparcener/pub/structuredmerge/typed.doMap").run prog w=.ok (410,.pointer (some a)) w:=by kernel_rfl
end
end Go.Proofs.YtbmklgemmjgjfaaGreat
