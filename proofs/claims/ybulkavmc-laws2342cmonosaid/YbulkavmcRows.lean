/-
  No cell of these rows narrows 'for every input' (looked for: loops, veiled, ifaces, maps, wideKeys, modest, calm, conditions, laid).
  DERIVED. THE GIVEN ROWS OF THIS SEAT. 4 by the template 'for every input the law returns true; each argument reads behind the call as it read before'; 0 by the template 'total and deterministic' (their statements: YbulkavmcTotals.lean).
  GIVEN WITH THE SEED: the statements are not yours to turn. If you find one false, say at which input.
  Laid BY PROGRAM, IN A SANDBOX (cutbox-rows.mjs): the forced cells as the released guide's own fill.sh prints them over the translation 60e2d1842d06b210… (all of the seat's roots in one cut). By AI agents, Wed Nov 11 2026. No macro, syntax, notation, axiom, sorry.
-/
import Derived.Test.YbulkavmcChecked
import GoSem.Claim
import GoSem.ClaimJoined
import GoSem.ClaimMapViews
import Derived.JoinedTies
import Derived.KernelRfl
namespace Go.Proofs.Ybulkavmc
/- THE CELL 'sum', in the pinned program and in every row, IS THE sha256 OF THE DUMP (.gsa) THAT YbulkavmcProg.lean LOADS. Nothing in Lean hashes anything: it is a label: what it is worth is what the hold of that sum in a sandbox is worth. -/
noncomputable def Yba.pinned : Pinned := { name := "ybulkavmc", sum := "60e2d1842d06b2100bd10ab039ff2555439ea3e3dd11c0cb122ff194c7156e39", checked := Yba.checked }
namespace Rows
def none {H : Type} : Left H := { results := [], args := [] }

/-- 'rng.LawS2342AUnmixAfterMix': WHATEVER THE INPUT: true; the input reads as it did. -/
def lawS2342AUnmixAfterMixSpec : ChangeSpec := { name := "lawS2342AUnmixAfterMix", fn := fun _ => fun
  | [d] => { results := [.lit (.bool true)], args := [d] }
  | _ => none }
def lawS2342AUnmixAfterMixRow : OpenClaim := { program := "ybulkavmc", sum := "60e2d1842d06b2100bd10ab039ff2555439ea3e3dd11c0cb122ff194c7156e39", func := "example.com/truehop/truehop/internal/rng.LawS2342AUnmixAfterMix", spec := "lawS2342AUnmixAfterMix", apart := false }
def LawS2342AUnmixAfterMixSaid : Prop := lawS2342AUnmixAfterMixRow.holds Yba.pinned (OpenSpec.ofChange lawS2342AUnmixAfterMixSpec)

/-- ITS FALSE NEIGHBOUR: 'it returns false'. Refute it at one input. -/
def lawS2342AUnmixAfterMixWrong : ChangeSpec := { name := "lawS2342AUnmixAfterMix", fn := fun _ => fun
  | [d] => { results := [.lit (.bool false)], args := [d] }
  | _ => none }
def LawS2342AUnmixAfterMixWrongFalsely : Prop := lawS2342AUnmixAfterMixRow.holds Yba.pinned (OpenSpec.ofChange lawS2342AUnmixAfterMixWrong)

/-- 'rng.LawS2342AMixAfterUnmix': WHATEVER THE INPUT: true; the input reads as it did. -/
def lawS2342AMixAfterUnmixSpec : ChangeSpec := { name := "lawS2342AMixAfterUnmix", fn := fun _ => fun
  | [d] => { results := [.lit (.bool true)], args := [d] }
  | _ => none }
def lawS2342AMixAfterUnmixRow : OpenClaim := { program := "ybulkavmc", sum := "60e2d1842d06b2100bd10ab039ff2555439ea3e3dd11c0cb122ff194c7156e39", func := "example.com/truehop/truehop/internal/rng.LawS2342AMixAfterUnmix", spec := "lawS2342AMixAfterUnmix", apart := false }
def LawS2342AMixAfterUnmixSaid : Prop := lawS2342AMixAfterUnmixRow.holds Yba.pinned (OpenSpec.ofChange lawS2342AMixAfterUnmixSpec)

/-- ITS FALSE NEIGHBOUR: 'it returns false'. Refute it at one input. -/
def lawS2342AMixAfterUnmixWrong : ChangeSpec := { name := "lawS2342AMixAfterUnmix", fn := fun _ => fun
  | [d] => { results := [.lit (.bool false)], args := [d] }
  | _ => none }
def LawS2342AMixAfterUnmixWrongFalsely : Prop := lawS2342AMixAfterUnmixRow.holds Yba.pinned (OpenSpec.ofChange lawS2342AMixAfterUnmixWrong)

/-- 'rng.LawS2342AInjective': WHATEVER THE INPUT: true; the input reads as it did. -/
def lawS2342AInjectiveSpec : ChangeSpec := { name := "lawS2342AInjective", fn := fun _ => fun
  | [d1, d2] => { results := [.lit (.bool true)], args := [d1, d2] }
  | _ => none }
def lawS2342AInjectiveRow : OpenClaim := { program := "ybulkavmc", sum := "60e2d1842d06b2100bd10ab039ff2555439ea3e3dd11c0cb122ff194c7156e39", func := "example.com/truehop/truehop/internal/rng.LawS2342AInjective", spec := "lawS2342AInjective", apart := false }
def LawS2342AInjectiveSaid : Prop := lawS2342AInjectiveRow.holds Yba.pinned (OpenSpec.ofChange lawS2342AInjectiveSpec)

/-- ITS FALSE NEIGHBOUR: 'it returns false'. Refute it at one input. -/
def lawS2342AInjectiveWrong : ChangeSpec := { name := "lawS2342AInjective", fn := fun _ => fun
  | [d1, d2] => { results := [.lit (.bool false)], args := [d1, d2] }
  | _ => none }
def LawS2342AInjectiveWrongFalsely : Prop := lawS2342AInjectiveRow.holds Yba.pinned (OpenSpec.ofChange lawS2342AInjectiveWrong)

/-- 'nodeset.LawS2342CMono': WHATEVER THE INPUT: true; the input reads as it did. -/
def lawS2342CMonoSpec : ChangeSpec := { name := "lawS2342CMono", fn := fun _ => fun
  | [d1, d2, d3, d4] => { results := [.lit (.bool true)], args := [d1, d2, d3, d4] }
  | _ => none }
def lawS2342CMonoRow : OpenClaim := { program := "ybulkavmc", sum := "60e2d1842d06b2100bd10ab039ff2555439ea3e3dd11c0cb122ff194c7156e39", func := "example.com/truehop/truehop/internal/nodeset.LawS2342CMono", spec := "lawS2342CMono", unfollowed := true, recurses := true, apart := false }
def LawS2342CMonoSaid : Prop := lawS2342CMonoRow.holds Yba.pinned (OpenSpec.ofChange lawS2342CMonoSpec)

/-- ITS FALSE NEIGHBOUR: 'it returns false'. Refute it at one input. -/
def lawS2342CMonoWrong : ChangeSpec := { name := "lawS2342CMono", fn := fun _ => fun
  | [d1, d2, d3, d4] => { results := [.lit (.bool false)], args := [d1, d2, d3, d4] }
  | _ => none }
def LawS2342CMonoWrongFalsely : Prop := lawS2342CMonoRow.holds Yba.pinned (OpenSpec.ofChange lawS2342CMonoWrong)

end Rows
end Go.Proofs.Ybulkavmc
