/-
  FnTreesConflict returns true, changes none of its arguments and does not panic, whatever two values and two names it is handed.
  Condition: the arguments together are of bulk at most 1048576 (the second form, '..UptoSaid': the law lists the paths of a tree ahead of its own guard on sizes, and such a list can pass what a machine holds).
-/
import Derived.Test.YtbmklgemmjgjfaaGreatRows
import Derived.Test.YtbmklgemmjgjfaaGreatT53
import Derived.WalkKit
import Derived.ProofKit
import Derived.OpenShut
import Derived.JoinedCond
namespace Go.Proofs.YtbmklgemmjgjfaaGreat.fnTreesConflict
open Go.ChangeShapes Go.WideShapes Go.RowKit
theorem all_sum {H : Type} : ∀ ds : List (DataW H), Rows.uptoBulkAll ds = (ds.map Rows.uptoBulk).sum
  | [] => by simp [Rows.uptoBulkAll]
  | d :: r => by simp [Rows.uptoBulkAll, all_sum r]
theorem bk {H : Type} : Bk (Rows.uptoBulk (H := H)) where
  one d := by
    cases d with
    | lit l => cases l <;> simp [Rows.uptoBulk]
    | _ => simp [Rows.uptoBulk]
  str l := by simp [Rows.uptoBulk]
  sl es sp := by simp only [Rows.uptoBulk, all_sum]; omega
  ag ps := by simp only [Rows.uptoBulk, all_sum]; omega
theorem le_sum : ∀ {l : List Nat} {a : Nat}, a ∈ l → a ≤ l.sum
  | b :: l, a, h => by
    rcases List.mem_cons.1 h with rfl | h
    · simp
    · have := le_sum h; simp only [List.sum_cons]; omega
theorem each {H : Type} {ds gs : List (DataW H)} (hk : Rows.uptoSmall H (ds ++ gs) = true) : ∀ d ∈ ds, Rows.uptoBulk d ≤ 1048576 := by
  have h : Rows.uptoBulkAll (ds ++ gs) ≤ 1048576 := of_decide_eq_true hk
  rw [all_sum] at h
  intro d hd
  exact Nat.le_trans (le_sum (List.mem_map_of_mem (List.mem_append_left _ hd))) h
theorem own : ownKnob Tryz.prog.godebug = Option.none := by kernel_rfl
def nought : Value := .agg #[.int .i64 0, .int .i64 0, .float .f64 0, .string .empty, .slice Option.none 0 0, .slice Option.none 0 0]
def read {H : Type} : DataW H := .agg [.lit (.int .i64 0), .lit (.int .i64 0), .lit (.float .f64 0), .lit (.string []), .nil, .nil]
set_option maxRecDepth 100000 in
theorem lifted (os : Os) (started : os.Started) (H : Type) (enc : TypeId × Value → H) (F : Stop.Interp) :
    ReturnsInHanded {} Tryz.checked os 5 .any ((Rows.OpenSpec.upto Rows.fnTreesConflictSpec).pre6 enc Tryz.prog Tryz.f5 Rows.fnTreesConflictUptoRow.domain false) (((Rows.OpenSpec.upto Rows.fnTreesConflictSpec).at F).post enc Tryz.prog Tryz.f5 false true false false) := by
  refine returnsInHanded_of_cond (C := Tryz.checked) (s := Rows.OpenSpec.upto Rows.fnTreesConflictSpec) (k := Rows.uptoSmall) rfl own started (by kernel_rfl) Tryz.func5
    (OpenSpec.witness (enc := enc) (C := Tryz.checked) (s := Rows.OpenSpec.upto Rows.fnTreesConflictSpec) (k := Rows.uptoSmall) rfl false ⟨#[], #[nought, nought, .string .empty, .string .empty], []⟩ 8 (by kernel_rfl) (by kernel_rfl) (by kernel_rfl)
      (x := ([read, read, .lit (.string []), .lit (.string [])], [], [])) (by kernel_rfl) rfl (by kernel_rfl)) ?_
  intro W base args ds gs before hval hW _ hk _
  exact law_contract bk Rows.fnTreesConflictSpec rfl hval hW (each hk) fun ds h => match ds, h with
    | [_, _, _, _], _ => ⟨rfl, rfl, rfl⟩
noncomputable abbrev PP : Program := Tryz.pinned.checked.prog
abbrev SS : ChangeSpec := (Rows.OpenSpec.upto Rows.fnTreesConflictSpec).bare
abbrev CC : OpenClaim := Rows.fnTreesConflictUptoRow
theorem andT {a b : Bool} (h : a = true) (k : b = true) : (a && b) = true := by rw [h, k]; rfl
theorem j0 : (CC.wf (OpenSpec.ofChange SS)) = true := by kernel_rfl
theorem j1 : (laidOutB PP) = true := by kernel_rfl
theorem j2 : (mapsRowed PP) = true := by kernel_rfl
theorem j3 : (Tryz.f5.params.all (PP.readableRec ·)) = true := by kernel_rfl
theorem j4 : (namedTie PP CC.named SS.vars) = true := by kernel_rfl
theorem j5 : ((CC.stops == [])) = true := by kernel_rfl
theorem j6 : ((PP.stops == [])) = true := by kernel_rfl
theorem j7 : ((CC.knobs == [])) = true := by kernel_rfl
theorem j8 : ((PP.stopKnobs == [])) = true := by kernel_rfl
theorem j9 : ((CC.inPlace == PP.inPlace 5)) = true := by kernel_rfl
theorem j10 : ((CC.unfollowed == PP.unfollowed 5)) = true := by kernel_rfl
theorem j11 : ((CC.recurses == PP.recurses 5)) = true := by kernel_rfl
theorem j12 : ((CC.named == PP.varsNamed 5)) = true := by kernel_rfl
theorem j13 : ((CC.maps == (Tryz.f5.params.toList ++ SS.plain.varTypes PP).any (PP.mapsRec ·))) = true := by kernel_rfl
theorem j14 : ((CC.ifaces == (Tryz.f5.params.toList ++ SS.plain.varTypes PP).any (PP.ifacesRec ·))) = true := by kernel_rfl
theorem j15 : ((CC.mapsOut == PP.mapsAmong Tryz.f5.resultTypes.toList)) = true := by kernel_rfl
theorem j16 : ((CC.loops == (Tryz.f5.params.toList ++ SS.plain.varTypes PP).any (PP.loopsFrom ·))) = true := by kernel_rfl
theorem j17 : ((CC.wideKeys == (Tryz.f5.params.toList ++ SS.plain.varTypes PP ++ Tryz.f5.resultTypes.toList).any (PP.wideKeysFrom ·))) = true := by kernel_rfl
theorem j18 : (SS.vars.all (PP.varReadable ·)) = true := by kernel_rfl
theorem j19 : (Tryz.f5.resultTypes.all (fun t => PP.readableRec t && decide (t < PP.types.size))) = true := by kernel_rfl
theorem j20 : ((CC.ifacesOut == Tryz.f5.resultTypes.toList.any (PP.ifacesRec ·))) = true := by kernel_rfl
theorem j21 : ((CC.loopsOut == Tryz.f5.resultTypes.toList.any (PP.loopsFrom ·))) = true := by kernel_rfl
theorem j22 : ((CC.plainKeys == PP.plainKeys)) = true := by kernel_rfl
theorem j23 : (CC.shortTexts.isNone) = true := by kernel_rfl
theorem j24 : (PP.stopsHeard) = true := by kernel_rfl
theorem j25 : (PP.mayEnter) = true := by kernel_rfl
theorem j26 : ((CC.lifted == PP.liftsFinal)) = true := by kernel_rfl
theorem j27 : ((PP.make == some CC.make)) = true := by kernel_rfl
theorem j28 : ((CC.kinds == (if CC.domain.isEmpty then [] else Tryz.f5.params.toList.map fun t => match PP.underlying t with | some (.int k) => some k | _ => none))) = true := by kernel_rfl
theorem j29 : ((CC.pinned == CC.pinnedBy)) = true := by kernel_rfl
theorem j30 : ((CC.veiled == (Tryz.f5.params.toList ++ SS.plain.varTypes PP ++ Tryz.f5.resultTypes.toList).any (PP.veiledRec ·))) = true := by kernel_rfl
theorem j31 : (CC.veiledFits PP Tryz.f5.params.toList (Tryz.f5.params.toList ++ SS.plain.varTypes PP ++ Tryz.f5.resultTypes.toList)) = true := by kernel_rfl
set_option maxRecDepth 100000 in
theorem closed : joinedFacts PP 5 Tryz.f5 SS CC = true := by
  unfold joinedFacts
  exact andT (andT (andT (andT (andT (andT (andT (andT (andT (andT (andT (andT (andT (andT (andT (andT (andT (andT (andT (andT (andT (andT (andT (andT (andT (andT (andT (andT (andT (andT (andT j0 j1) j2) j3) j4) j5) j6) j7) j8) j9) j10) j11) j12) j13) j14) j15) j16) j17) j18) j19) j20) j21) j22) j23) j24) j25) j26) j27) j28) j29) j30) j31
theorem named : PP.funcNamed CC.func = some 5 := by kernel_rfl
theorem proved : Rows.FnTreesConflictUptoSaid :=
  OpenClaim.holds_of_cond 5 Tryz.f5 rfl rfl rfl rfl rfl rfl rfl ⟨rfl, rfl, rfl, rfl, rfl⟩ rfl rfl rfl rfl rfl named Tryz.func5 closed
    (of_decide_eq_true (by kernel_rfl)) (by unfold Func.isWrapper; first | (rw [if_pos (by decide +kernel)]; kernel_rfl) | (rw [if_neg (by decide +kernel)]; exact ⟨rfl, rfl⟩))
    (fun os started H enc _ F => lifted os started H enc F)
end Go.Proofs.YtbmklgemmjgjfaaGreat.fnTreesConflict
