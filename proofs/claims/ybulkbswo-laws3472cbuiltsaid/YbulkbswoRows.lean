/-
  No cell of these rows narrows 'for every input' (looked for: loops, veiled, ifaces, maps, wideKeys, modest, calm, conditions, laid).
  DERIVED. THE GIVEN ROWS OF THIS SEAT. 6 by the template 'for every input the law returns true; each argument reads behind the call as it read before'; 0 by the template 'total and deterministic' (their statements: YbulkbswoTotals.lean).
  GIVEN WITH THE SEED: the statements are not yours to turn. If you find one false, say at which input.
  Laid BY PROGRAM, IN A SANDBOX (cutbox-rows.mjs): the forced cells as the released guide's own fill.sh prints them over the translation 96915dfac3e35a02… (all of the seat's roots in one cut). By AI agents, Wed Nov 11 2026. No macro, syntax, notation, axiom, sorry.
-/
import Derived.Test.YbulkbswoChecked
import GoSem.Claim
import GoSem.ClaimJoined
import GoSem.ClaimMapViews
import Derived.JoinedTies
import Derived.KernelRfl
namespace Go.Proofs.Ybulkbswo
/- THE CELL 'sum', in the pinned program and in every row, IS THE sha256 OF THE DUMP (.gsa) THAT YbulkbswoProg.lean LOADS. Nothing in Lean hashes anything: it is a label: what it is worth is what the hold of that sum in a sandbox is worth. -/
noncomputable def Yba.pinned : Pinned := { name := "ybulkbswo", sum := "96915dfac3e35a02fb9a31592c4719abdbe7d22cb372b50dd7f7cab5eafd2987", checked := Yba.checked }
namespace Rows
def none {H : Type} : Left H := { results := [], args := [] }

/-- 'deltarc.LawS3472AExact': WHATEVER THE INPUT: true; the input reads as it did. -/
def lawS3472AExactSpec : ChangeSpec := { name := "lawS3472AExact", fn := fun _ => fun
  | [d] => { results := [.lit (.bool true)], args := [d] }
  | _ => none }
def lawS3472AExactRow : OpenClaim := { program := "ybulkbswo", sum := "96915dfac3e35a02fb9a31592c4719abdbe7d22cb372b50dd7f7cab5eafd2987", func := "example.com/tickpack/tickpack/deltarc.LawS3472AExact", spec := "lawS3472AExact", apart := false }
def LawS3472AExactSaid : Prop := lawS3472AExactRow.holds Yba.pinned (OpenSpec.ofChange lawS3472AExactSpec)

/-- ITS FALSE NEIGHBOUR: 'it returns false'. Refute it at one input. -/
def lawS3472AExactWrong : ChangeSpec := { name := "lawS3472AExact", fn := fun _ => fun
  | [d] => { results := [.lit (.bool false)], args := [d] }
  | _ => none }
def LawS3472AExactWrongFalsely : Prop := lawS3472AExactRow.holds Yba.pinned (OpenSpec.ofChange lawS3472AExactWrong)

/-- 'deltarc.LawS3472ASymmetric': WHATEVER THE INPUT: true; the input reads as it did. -/
def lawS3472ASymmetricSpec : ChangeSpec := { name := "lawS3472ASymmetric", fn := fun _ => fun
  | [d] => { results := [.lit (.bool true)], args := [d] }
  | _ => none }
def lawS3472ASymmetricRow : OpenClaim := { program := "ybulkbswo", sum := "96915dfac3e35a02fb9a31592c4719abdbe7d22cb372b50dd7f7cab5eafd2987", func := "example.com/tickpack/tickpack/deltarc.LawS3472ASymmetric", spec := "lawS3472ASymmetric", apart := false }
def LawS3472ASymmetricSaid : Prop := lawS3472ASymmetricRow.holds Yba.pinned (OpenSpec.ofChange lawS3472ASymmetricSpec)

/-- ITS FALSE NEIGHBOUR: 'it returns false'. Refute it at one input. -/
def lawS3472ASymmetricWrong : ChangeSpec := { name := "lawS3472ASymmetric", fn := fun _ => fun
  | [d] => { results := [.lit (.bool false)], args := [d] }
  | _ => none }
def LawS3472ASymmetricWrongFalsely : Prop := lawS3472ASymmetricRow.holds Yba.pinned (OpenSpec.ofChange lawS3472ASymmetricWrong)

/-- 'tickpack.LawS3472BRoad': WHATEVER THE INPUT: true; the input reads as it did. -/
def lawS3472BRoadSpec : ChangeSpec := { name := "lawS3472BRoad", fn := fun _ => fun
  | [d1, d2, d3, d4, d5, d6, d7] => { results := [.lit (.bool true)], args := [d1, d2, d3, d4, d5, d6, d7] }
  | _ => none }
def lawS3472BRoadRow : OpenClaim := { program := "ybulkbswo", sum := "96915dfac3e35a02fb9a31592c4719abdbe7d22cb372b50dd7f7cab5eafd2987", func := "example.com/tickpack/tickpack.LawS3472BRoad", spec := "lawS3472BRoad", inPlace := ["math.Float64frombits", "math.Float64bits"], unfollowed := true, recurses := true, apart := false }
def LawS3472BRoadSaid : Prop := lawS3472BRoadRow.holds Yba.pinned (OpenSpec.ofChange lawS3472BRoadSpec)

/-- ITS FALSE NEIGHBOUR: 'it returns false'. Refute it at one input. -/
def lawS3472BRoadWrong : ChangeSpec := { name := "lawS3472BRoad", fn := fun _ => fun
  | [d1, d2, d3, d4, d5, d6, d7] => { results := [.lit (.bool false)], args := [d1, d2, d3, d4, d5, d6, d7] }
  | _ => none }
def LawS3472BRoadWrongFalsely : Prop := lawS3472BRoadRow.holds Yba.pinned (OpenSpec.ofChange lawS3472BRoadWrong)

/-- 'tickpack.LawS3472BNilCodec': WHATEVER THE INPUT: true; the input reads as it did. -/
def lawS3472BNilCodecSpec : ChangeSpec := { name := "lawS3472BNilCodec", fn := fun _ => fun
  | [d1, d2, d3, d4] => { results := [.lit (.bool true)], args := [d1, d2, d3, d4] }
  | _ => none }
def lawS3472BNilCodecRow : OpenClaim := { program := "ybulkbswo", sum := "96915dfac3e35a02fb9a31592c4719abdbe7d22cb372b50dd7f7cab5eafd2987", func := "example.com/tickpack/tickpack.LawS3472BNilCodec", spec := "lawS3472BNilCodec", inPlace := ["math.Float64frombits"], unfollowed := true, recurses := true, apart := false }
def LawS3472BNilCodecSaid : Prop := lawS3472BNilCodecRow.holds Yba.pinned (OpenSpec.ofChange lawS3472BNilCodecSpec)

/-- ITS FALSE NEIGHBOUR: 'it returns false'. Refute it at one input. -/
def lawS3472BNilCodecWrong : ChangeSpec := { name := "lawS3472BNilCodec", fn := fun _ => fun
  | [d1, d2, d3, d4] => { results := [.lit (.bool false)], args := [d1, d2, d3, d4] }
  | _ => none }
def LawS3472BNilCodecWrongFalsely : Prop := lawS3472BNilCodecRow.holds Yba.pinned (OpenSpec.ofChange lawS3472BNilCodecWrong)

/-- 'wordpack.LawS3472CModel': WHATEVER THE INPUT: true; the input reads as it did. -/
def lawS3472CModelSpec : ChangeSpec := { name := "lawS3472CModel", fn := fun _ => fun
  | [d1, d2] => { results := [.lit (.bool true)], args := [d1, d2] }
  | _ => none }
def lawS3472CModelRow : OpenClaim := { program := "ybulkbswo", sum := "96915dfac3e35a02fb9a31592c4719abdbe7d22cb372b50dd7f7cab5eafd2987", func := "example.com/tickpack/tickpack/internal/wordpack.LawS3472CModel", spec := "lawS3472CModel", apart := false }
def LawS3472CModelSaid : Prop := lawS3472CModelRow.holds Yba.pinned (OpenSpec.ofChange lawS3472CModelSpec)

/-- ITS FALSE NEIGHBOUR: 'it returns false'. Refute it at one input. -/
def lawS3472CModelWrong : ChangeSpec := { name := "lawS3472CModel", fn := fun _ => fun
  | [d1, d2] => { results := [.lit (.bool false)], args := [d1, d2] }
  | _ => none }
def LawS3472CModelWrongFalsely : Prop := lawS3472CModelRow.holds Yba.pinned (OpenSpec.ofChange lawS3472CModelWrong)

/-- 'wordpack.LawS3472CBuilt': WHATEVER THE INPUT: true; the input reads as it did. -/
def lawS3472CBuiltSpec : ChangeSpec := { name := "lawS3472CBuilt", fn := fun _ => fun
  | [d1, d2, d3, d4, d5] => { results := [.lit (.bool true)], args := [d1, d2, d3, d4, d5] }
  | _ => none }
def lawS3472CBuiltRow : OpenClaim := { program := "ybulkbswo", sum := "96915dfac3e35a02fb9a31592c4719abdbe7d22cb372b50dd7f7cab5eafd2987", func := "example.com/tickpack/tickpack/internal/wordpack.LawS3472CBuilt", spec := "lawS3472CBuilt", apart := false }
def LawS3472CBuiltSaid : Prop := lawS3472CBuiltRow.holds Yba.pinned (OpenSpec.ofChange lawS3472CBuiltSpec)

/-- ITS FALSE NEIGHBOUR: 'it returns false'. Refute it at one input. -/
def lawS3472CBuiltWrong : ChangeSpec := { name := "lawS3472CBuilt", fn := fun _ => fun
  | [d1, d2, d3, d4, d5] => { results := [.lit (.bool false)], args := [d1, d2, d3, d4, d5] }
  | _ => none }
def LawS3472CBuiltWrongFalsely : Prop := lawS3472CBuiltRow.holds Yba.pinned (OpenSpec.ofChange lawS3472CBuiltWrong)

end Rows
end Go.Proofs.Ybulkbswo
