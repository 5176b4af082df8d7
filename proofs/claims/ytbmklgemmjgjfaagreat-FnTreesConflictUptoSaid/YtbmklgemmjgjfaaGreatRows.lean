/-
  NARROWER THAN 'FOR EVERY INPUT', by the rows' own cells (each row's printed sentence says how): FnUpdateOwns: loops · FnTreesConflict: loops.
  DERIVED. THE GIVEN ROWS OF THIS SEAT. 3 by the template 'for every input the law returns true; each argument reads behind the call as it read before'; 0 by the template 'total and deterministic' (their statements: YtbmklgemmjgjfaaGreatTotals.lean).
  GIVEN WITH THE SEED: the statements are not yours to turn. If you find one false, say at which input.
  Laid BY PROGRAM, IN A SANDBOX (cutbox-rows.mjs): the forced cells as the released guide's own fill.sh prints them over the translation 2524b15adb241567… (all of the seat's roots in one cut). By AI agents, Wed Nov 11 2026. No macro, syntax, notation, axiom, sorry.
-/
import Derived.Test.YtbmklgemmjgjfaaGreatChecked
import GoSem.Claim
import GoSem.ClaimJoined
import GoSem.ClaimMapViews
import Derived.JoinedTies
import Derived.KernelRfl
namespace Go.Proofs.YtbmklgemmjgjfaaGreat
/- THE CELL 'sum', in the pinned program and in every row, IS THE sha256 OF THE DUMP (.gsa) THAT YtbmklgemmjgjfaaGreatProg.lean LOADS. Nothing in Lean hashes anything: it is a label: what it is worth is what the hold of that sum in a sandbox is worth. -/
noncomputable def Tryz.pinned : Pinned := { name := "ytbmklgemmjgjfaagreat", sum := "2524b15adb24156729a179d9f1b8482de3581f37dad3f7775c4fe3a68c48b9eb", checked := Tryz.checked }
namespace Rows
def none {H : Type} : Left H := { results := [], args := [] }

/-- 'laws.FnUpdateOwns': WHATEVER THE INPUT: true; the input reads as it did. -/
def fnUpdateOwnsSpec : ChangeSpec := { name := "fnUpdateOwns", fn := fun _ => fun
  | [d1, d2, d3, d4] => { results := [.lit (.bool true)], args := [d1, d2, d3, d4] }
  | _ => none }
def fnUpdateOwnsRow : OpenClaim := { program := "ytbmklgemmjgjfaagreat", sum := "2524b15adb24156729a179d9f1b8482de3581f37dad3f7775c4fe3a68c48b9eb", func := "pub-coparcener/laws.FnUpdateOwns", spec := "fnUpdateOwns", inPlace := ["internal/bytealg.abigen_runtime_cmpstring", "slices.overlaps[pub-coparcener/pub/structuredmerge/fieldpath.PathElement]", "slices.overlaps[pub-coparcener/pub/structuredmerge/fieldpath.setNode]"], unfollowed := true, recurses := true, loops := true, apart := false }
def FnUpdateOwnsSaid : Prop := fnUpdateOwnsRow.holds Tryz.pinned (OpenSpec.ofChange fnUpdateOwnsSpec)

/-- ITS FALSE NEIGHBOUR: 'it returns false'. Refute it at one input. -/
def fnUpdateOwnsWrong : ChangeSpec := { name := "fnUpdateOwns", fn := fun _ => fun
  | [d1, d2, d3, d4] => { results := [.lit (.bool false)], args := [d1, d2, d3, d4] }
  | _ => none }
def FnUpdateOwnsWrongFalsely : Prop := fnUpdateOwnsRow.holds Tryz.pinned (OpenSpec.ofChange fnUpdateOwnsWrong)

/-- 'laws.FnItemsLive': WHATEVER THE INPUT: true; the input reads as it did. -/
def fnItemsLiveSpec : ChangeSpec := { name := "fnItemsLive", fn := fun _ => fun
  | [d] => { results := [.lit (.bool true)], args := [d] }
  | _ => none }
def fnItemsLiveRow : OpenClaim := { program := "ytbmklgemmjgjfaagreat", sum := "2524b15adb24156729a179d9f1b8482de3581f37dad3f7775c4fe3a68c48b9eb", func := "pub-coparcener/laws.FnItemsLive", spec := "fnItemsLive", inPlace := ["internal/bytealg.abigen_runtime_cmpstring", "slices.overlaps[pub-coparcener/pub/structuredmerge/fieldpath.PathElement]", "slices.overlaps[pub-coparcener/pub/structuredmerge/fieldpath.setNode]"], unfollowed := true, recurses := true, apart := false }
def FnItemsLiveSaid : Prop := fnItemsLiveRow.holds Tryz.pinned (OpenSpec.ofChange fnItemsLiveSpec)

/-- ITS FALSE NEIGHBOUR: 'it returns false'. Refute it at one input. -/
def fnItemsLiveWrong : ChangeSpec := { name := "fnItemsLive", fn := fun _ => fun
  | [d] => { results := [.lit (.bool false)], args := [d] }
  | _ => none }
def FnItemsLiveWrongFalsely : Prop := fnItemsLiveRow.holds Tryz.pinned (OpenSpec.ofChange fnItemsLiveWrong)

/-- 'laws.FnTreesConflict': WHATEVER THE INPUT: true; the input reads as it did. -/
def fnTreesConflictSpec : ChangeSpec := { name := "fnTreesConflict", fn := fun _ => fun
  | [d1, d2, d3, d4] => { results := [.lit (.bool true)], args := [d1, d2, d3, d4] }
  | _ => none }
def fnTreesConflictRow : OpenClaim := { program := "ytbmklgemmjgjfaagreat", sum := "2524b15adb24156729a179d9f1b8482de3581f37dad3f7775c4fe3a68c48b9eb", func := "pub-coparcener/laws.FnTreesConflict", spec := "fnTreesConflict", inPlace := ["internal/bytealg.abigen_runtime_cmpstring", "slices.overlaps[pub-coparcener/pub/structuredmerge/fieldpath.PathElement]", "slices.overlaps[pub-coparcener/pub/structuredmerge/fieldpath.setNode]"], unfollowed := true, recurses := true, loops := true, apart := false }
def FnTreesConflictSaid : Prop := fnTreesConflictRow.holds Tryz.pinned (OpenSpec.ofChange fnTreesConflictSpec)

/-- ITS FALSE NEIGHBOUR: 'it returns false'. Refute it at one input. -/
def fnTreesConflictWrong : ChangeSpec := { name := "fnTreesConflict", fn := fun _ => fun
  | [d1, d2, d3, d4] => { results := [.lit (.bool false)], args := [d1, d2, d3, d4] }
  | _ => none }
def FnTreesConflictWrongFalsely : Prop := fnTreesConflictRow.holds Tryz.pinned (OpenSpec.ofChange fnTreesConflictWrong)

/- THE SECOND FORM. 'bulk': how many values and letters a reading holds, each counted each time it is reached (what is shared counts as often as it is met; a slice's spare places count too). A statement '..UptoSaid' is the law's where the arguments, and the package variables that the reading takes, are together of bulk at most 1048576: NARROWER than '..Said'. Prove '..Said' where nothing that the law and all that it calls make is longer than what came in: it says more and counts as full. Else prove '..UptoSaid'. A law counts once. -/
mutual
def uptoBulk {H : Type} : DataW H → Nat
  | .lit (.string bytes) => bytes.length + 1
  | .lit _ => 1
  | .nil => 1
  | .ptr d => uptoBulk d + 1
  | .slice elems spare => uptoBulkAll elems + uptoBulkAll spare + 1
  | .agg parts => uptoBulkAll parts + 1
  | .iface _ d => uptoBulk d + 1
  | .map entries => uptoBulkEntries entries + 1
  | .held _ => 1
def uptoBulkAll {H : Type} : List (DataW H) → Nat
  | [] => 0
  | d :: r => uptoBulk d + uptoBulkAll r
def uptoBulkEntries {H : Type} : List (Lit × DataW H) → Nat
  | [] => 0
  | x :: r => uptoBulkEntry x + uptoBulkEntries r
def uptoBulkEntry {H : Type} : Lit × DataW H → Nat
  | (.string bytes, d) => bytes.length + uptoBulk d + 1
  | (_, d) => uptoBulk d + 1
 end
def uptoSmall : (H : Type) → List (DataW H) → Bool := fun _ ds => decide (uptoBulkAll ds ≤ 1048576)
def OpenSpec.upto (s : _root_.Go.ChangeSpec) : _root_.Go.OpenSpec := { _root_.Go.OpenSpec.ofChange s with cond := some uptoSmall }

/-- 'laws.FnUpdateOwns', WHERE WHAT IT READS IS OF BULK AT MOST 1048576: true; the input reads as it did. -/
def fnUpdateOwnsUptoRow : OpenClaim := { program := "ytbmklgemmjgjfaagreat", sum := "2524b15adb24156729a179d9f1b8482de3581f37dad3f7775c4fe3a68c48b9eb", func := "pub-coparcener/laws.FnUpdateOwns", spec := "fnUpdateOwns", inPlace := ["internal/bytealg.abigen_runtime_cmpstring", "slices.overlaps[pub-coparcener/pub/structuredmerge/fieldpath.PathElement]", "slices.overlaps[pub-coparcener/pub/structuredmerge/fieldpath.setNode]"], unfollowed := true, recurses := true, loops := true, apart := false, narrowed := true }
def FnUpdateOwnsUptoSaid : Prop := fnUpdateOwnsUptoRow.holds Tryz.pinned (OpenSpec.upto fnUpdateOwnsSpec)

/-- 'laws.FnItemsLive', WHERE WHAT IT READS IS OF BULK AT MOST 1048576: true; the input reads as it did. -/
def fnItemsLiveUptoRow : OpenClaim := { program := "ytbmklgemmjgjfaagreat", sum := "2524b15adb24156729a179d9f1b8482de3581f37dad3f7775c4fe3a68c48b9eb", func := "pub-coparcener/laws.FnItemsLive", spec := "fnItemsLive", inPlace := ["internal/bytealg.abigen_runtime_cmpstring", "slices.overlaps[pub-coparcener/pub/structuredmerge/fieldpath.PathElement]", "slices.overlaps[pub-coparcener/pub/structuredmerge/fieldpath.setNode]"], unfollowed := true, recurses := true, apart := false, narrowed := true }
def FnItemsLiveUptoSaid : Prop := fnItemsLiveUptoRow.holds Tryz.pinned (OpenSpec.upto fnItemsLiveSpec)

/-- 'laws.FnTreesConflict', WHERE WHAT IT READS IS OF BULK AT MOST 1048576: true; the input reads as it did. -/
def fnTreesConflictUptoRow : OpenClaim := { program := "ytbmklgemmjgjfaagreat", sum := "2524b15adb24156729a179d9f1b8482de3581f37dad3f7775c4fe3a68c48b9eb", func := "pub-coparcener/laws.FnTreesConflict", spec := "fnTreesConflict", inPlace := ["internal/bytealg.abigen_runtime_cmpstring", "slices.overlaps[pub-coparcener/pub/structuredmerge/fieldpath.PathElement]", "slices.overlaps[pub-coparcener/pub/structuredmerge/fieldpath.setNode]"], unfollowed := true, recurses := true, loops := true, apart := false, narrowed := true }
def FnTreesConflictUptoSaid : Prop := fnTreesConflictUptoRow.holds Tryz.pinned (OpenSpec.upto fnTreesConflictSpec)

end Rows
end Go.Proofs.YtbmklgemmjgjfaaGreat
