/-
  No cell of these rows narrows 'for every input' (looked for: loops, veiled, ifaces, maps, wideKeys, modest, calm, conditions, laid).
  DERIVED. THE GIVEN ROWS OF THIS SEAT. 30 by the template 'for every input the law returns true; each argument reads behind the call as it read before'; 0 by the template 'total and deterministic' (their statements: YtehadfnaknpagaaTotals.lean).
  GIVEN WITH THE SEED: the statements are not yours to turn. If you find one false, say at which input.
  Laid BY PROGRAM, IN A SANDBOX (cutbox-rows.mjs): the forced cells as the released guide's own fill.sh prints them over the translation fd36e5fe2524bcaf… (all of the seat's roots in one cut). By AI agents, Wed Nov 11 2026. No macro, syntax, notation, axiom, sorry.
-/
import Derived.Test.YtehadfnaknpagaaChecked
import GoSem.Claim
import GoSem.ClaimJoined
import GoSem.ClaimMapViews
import Derived.JoinedTies
import Derived.KernelRfl
namespace Go.Proofs.Ytehadfnaknpagaa
/- THE CELL 'sum', in the pinned program and in every row, IS THE sha256 OF THE DUMP (.gsa) THAT YtehadfnaknpagaaProg.lean LOADS. Nothing in Lean hashes anything: it is a label: what it is worth is what the hold of that sum in a sandbox is worth. -/
noncomputable def Try.pinned : Pinned := { name := "ytehadfnaknpagaa", sum := "fd36e5fe2524bcaf850002798836aec759a073202ab97ab9395087255f8d93fb", checked := Try.checked }
namespace Rows
def none {H : Type} : Left H := { results := [], args := [] }

/-- 'laws.FnIsAll': WHATEVER THE INPUT: true; the input reads as it did. -/
def fnIsAllSpec : ChangeSpec := { name := "fnIsAll", fn := fun _ => fun
  | [d1, d2] => { results := [.lit (.bool true)], args := [d1, d2] }
  | _ => none }
def fnIsAllRow : OpenClaim := { program := "ytehadfnaknpagaa", sum := "fd36e5fe2524bcaf850002798836aec759a073202ab97ab9395087255f8d93fb", func := "termset/laws.FnIsAll", spec := "fnIsAll", apart := false }
def FnIsAllSaid : Prop := fnIsAllRow.holds Try.pinned (OpenSpec.ofChange fnIsAllSpec)

/-- ITS FALSE NEIGHBOUR: 'it returns false'. Refute it at one input. -/
def fnIsAllWrong : ChangeSpec := { name := "fnIsAll", fn := fun _ => fun
  | [d1, d2] => { results := [.lit (.bool false)], args := [d1, d2] }
  | _ => none }
def FnIsAllWrongFalsely : Prop := fnIsAllRow.holds Try.pinned (OpenSpec.ofChange fnIsAllWrong)

/-- 'laws.FnIsEmpty': WHATEVER THE INPUT: true; the input reads as it did. -/
def fnIsEmptySpec : ChangeSpec := { name := "fnIsEmpty", fn := fun _ => fun
  | [d1, d2] => { results := [.lit (.bool true)], args := [d1, d2] }
  | _ => none }
def fnIsEmptyRow : OpenClaim := { program := "ytehadfnaknpagaa", sum := "fd36e5fe2524bcaf850002798836aec759a073202ab97ab9395087255f8d93fb", func := "termset/laws.FnIsEmpty", spec := "fnIsEmpty", apart := false }
def FnIsEmptySaid : Prop := fnIsEmptyRow.holds Try.pinned (OpenSpec.ofChange fnIsEmptySpec)

/-- ITS FALSE NEIGHBOUR: 'it returns false'. Refute it at one input. -/
def fnIsEmptyWrong : ChangeSpec := { name := "fnIsEmpty", fn := fun _ => fun
  | [d1, d2] => { results := [.lit (.bool false)], args := [d1, d2] }
  | _ => none }
def FnIsEmptyWrongFalsely : Prop := fnIsEmptyRow.holds Try.pinned (OpenSpec.ofChange fnIsEmptyWrong)

/-- 'laws.FnTermIncludes': WHATEVER THE INPUT: true; the input reads as it did. -/
def fnTermIncludesSpec : ChangeSpec := { name := "fnTermIncludes", fn := fun _ => fun
  | [d1, d2, d3] => { results := [.lit (.bool true)], args := [d1, d2, d3] }
  | _ => none }
def fnTermIncludesRow : OpenClaim := { program := "ytehadfnaknpagaa", sum := "fd36e5fe2524bcaf850002798836aec759a073202ab97ab9395087255f8d93fb", func := "termset/laws.FnTermIncludes", spec := "fnTermIncludes", apart := false }
def FnTermIncludesSaid : Prop := fnTermIncludesRow.holds Try.pinned (OpenSpec.ofChange fnTermIncludesSpec)

/-- ITS FALSE NEIGHBOUR: 'it returns false'. Refute it at one input. -/
def fnTermIncludesWrong : ChangeSpec := { name := "fnTermIncludes", fn := fun _ => fun
  | [d1, d2, d3] => { results := [.lit (.bool false)], args := [d1, d2, d3] }
  | _ => none }
def FnTermIncludesWrongFalsely : Prop := fnTermIncludesRow.holds Try.pinned (OpenSpec.ofChange fnTermIncludesWrong)

/-- 'laws.FnMembers': WHATEVER THE INPUT: true; the input reads as it did. -/
def fnMembersSpec : ChangeSpec := { name := "fnMembers", fn := fun _ => fun
  | [d1, d2, d3, d4] => { results := [.lit (.bool true)], args := [d1, d2, d3, d4] }
  | _ => none }
def fnMembersRow : OpenClaim := { program := "ytehadfnaknpagaa", sum := "fd36e5fe2524bcaf850002798836aec759a073202ab97ab9395087255f8d93fb", func := "termset/laws.FnMembers", spec := "fnMembers", apart := false }
def FnMembersSaid : Prop := fnMembersRow.holds Try.pinned (OpenSpec.ofChange fnMembersSpec)

/-- ITS FALSE NEIGHBOUR: 'it returns false'. Refute it at one input. -/
def fnMembersWrong : ChangeSpec := { name := "fnMembers", fn := fun _ => fun
  | [d1, d2, d3, d4] => { results := [.lit (.bool false)], args := [d1, d2, d3, d4] }
  | _ => none }
def FnMembersWrongFalsely : Prop := fnMembersRow.holds Try.pinned (OpenSpec.ofChange fnMembersWrong)

/-- 'laws.FnIncludes': WHATEVER THE INPUT: true; the input reads as it did. -/
def fnIncludesSpec : ChangeSpec := { name := "fnIncludes", fn := fun _ => fun
  | [d1, d2, d3] => { results := [.lit (.bool true)], args := [d1, d2, d3] }
  | _ => none }
def fnIncludesRow : OpenClaim := { program := "ytehadfnaknpagaa", sum := "fd36e5fe2524bcaf850002798836aec759a073202ab97ab9395087255f8d93fb", func := "termset/laws.FnIncludes", spec := "fnIncludes", apart := false }
def FnIncludesSaid : Prop := fnIncludesRow.holds Try.pinned (OpenSpec.ofChange fnIncludesSpec)

/-- ITS FALSE NEIGHBOUR: 'it returns false'. Refute it at one input. -/
def fnIncludesWrong : ChangeSpec := { name := "fnIncludes", fn := fun _ => fun
  | [d1, d2, d3] => { results := [.lit (.bool false)], args := [d1, d2, d3] }
  | _ => none }
def FnIncludesWrongFalsely : Prop := fnIncludesRow.holds Try.pinned (OpenSpec.ofChange fnIncludesWrong)

/-- 'laws.FnTermEqual': WHATEVER THE INPUT: true; the input reads as it did. -/
def fnTermEqualSpec : ChangeSpec := { name := "fnTermEqual", fn := fun _ => fun
  | [d1, d2, d3] => { results := [.lit (.bool true)], args := [d1, d2, d3] }
  | _ => none }
def fnTermEqualRow : OpenClaim := { program := "ytehadfnaknpagaa", sum := "fd36e5fe2524bcaf850002798836aec759a073202ab97ab9395087255f8d93fb", func := "termset/laws.FnTermEqual", spec := "fnTermEqual", apart := false }
def FnTermEqualSaid : Prop := fnTermEqualRow.holds Try.pinned (OpenSpec.ofChange fnTermEqualSpec)

/-- ITS FALSE NEIGHBOUR: 'it returns false'. Refute it at one input. -/
def fnTermEqualWrong : ChangeSpec := { name := "fnTermEqual", fn := fun _ => fun
  | [d1, d2, d3] => { results := [.lit (.bool false)], args := [d1, d2, d3] }
  | _ => none }
def FnTermEqualWrongFalsely : Prop := fnTermEqualRow.holds Try.pinned (OpenSpec.ofChange fnTermEqualWrong)

/-- 'laws.FnTermDisjoint': WHATEVER THE INPUT: true; the input reads as it did. -/
def fnTermDisjointSpec : ChangeSpec := { name := "fnTermDisjoint", fn := fun _ => fun
  | [d1, d2, d3] => { results := [.lit (.bool true)], args := [d1, d2, d3] }
  | _ => none }
def fnTermDisjointRow : OpenClaim := { program := "ytehadfnaknpagaa", sum := "fd36e5fe2524bcaf850002798836aec759a073202ab97ab9395087255f8d93fb", func := "termset/laws.FnTermDisjoint", spec := "fnTermDisjoint", apart := false }
def FnTermDisjointSaid : Prop := fnTermDisjointRow.holds Try.pinned (OpenSpec.ofChange fnTermDisjointSpec)

/-- ITS FALSE NEIGHBOUR: 'it returns false'. Refute it at one input. -/
def fnTermDisjointWrong : ChangeSpec := { name := "fnTermDisjoint", fn := fun _ => fun
  | [d1, d2, d3] => { results := [.lit (.bool false)], args := [d1, d2, d3] }
  | _ => none }
def FnTermDisjointWrongFalsely : Prop := fnTermDisjointRow.holds Try.pinned (OpenSpec.ofChange fnTermDisjointWrong)

/-- 'laws.FnSubsetUnion': WHATEVER THE INPUT: true; the input reads as it did. -/
def fnSubsetUnionSpec : ChangeSpec := { name := "fnSubsetUnion", fn := fun _ => fun
  | [d1, d2, d3] => { results := [.lit (.bool true)], args := [d1, d2, d3] }
  | _ => none }
def fnSubsetUnionRow : OpenClaim := { program := "ytehadfnaknpagaa", sum := "fd36e5fe2524bcaf850002798836aec759a073202ab97ab9395087255f8d93fb", func := "termset/laws.FnSubsetUnion", spec := "fnSubsetUnion", apart := false }
def FnSubsetUnionSaid : Prop := fnSubsetUnionRow.holds Try.pinned (OpenSpec.ofChange fnSubsetUnionSpec)

/-- ITS FALSE NEIGHBOUR: 'it returns false'. Refute it at one input. -/
def fnSubsetUnionWrong : ChangeSpec := { name := "fnSubsetUnion", fn := fun _ => fun
  | [d1, d2, d3] => { results := [.lit (.bool false)], args := [d1, d2, d3] }
  | _ => none }
def FnSubsetUnionWrongFalsely : Prop := fnSubsetUnionRow.holds Try.pinned (OpenSpec.ofChange fnSubsetUnionWrong)

/-- 'laws.FnOrder': WHATEVER THE INPUT: true; the input reads as it did. -/
def fnOrderSpec : ChangeSpec := { name := "fnOrder", fn := fun _ => fun
  | [d1, d2, d3] => { results := [.lit (.bool true)], args := [d1, d2, d3] }
  | _ => none }
def fnOrderRow : OpenClaim := { program := "ytehadfnaknpagaa", sum := "fd36e5fe2524bcaf850002798836aec759a073202ab97ab9395087255f8d93fb", func := "termset/laws.FnOrder", spec := "fnOrder", apart := false }
def FnOrderSaid : Prop := fnOrderRow.holds Try.pinned (OpenSpec.ofChange fnOrderSpec)

/-- ITS FALSE NEIGHBOUR: 'it returns false'. Refute it at one input. -/
def fnOrderWrong : ChangeSpec := { name := "fnOrder", fn := fun _ => fun
  | [d1, d2, d3] => { results := [.lit (.bool false)], args := [d1, d2, d3] }
  | _ => none }
def FnOrderWrongFalsely : Prop := fnOrderRow.holds Try.pinned (OpenSpec.ofChange fnOrderWrong)

/-- 'laws.FnSubsetOrder': WHATEVER THE INPUT: true; the input reads as it did. -/
def fnSubsetOrderSpec : ChangeSpec := { name := "fnSubsetOrder", fn := fun _ => fun
  | [d1, d2, d3, d4] => { results := [.lit (.bool true)], args := [d1, d2, d3, d4] }
  | _ => none }
def fnSubsetOrderRow : OpenClaim := { program := "ytehadfnaknpagaa", sum := "fd36e5fe2524bcaf850002798836aec759a073202ab97ab9395087255f8d93fb", func := "termset/laws.FnSubsetOrder", spec := "fnSubsetOrder", apart := false }
def FnSubsetOrderSaid : Prop := fnSubsetOrderRow.holds Try.pinned (OpenSpec.ofChange fnSubsetOrderSpec)

/-- ITS FALSE NEIGHBOUR: 'it returns false'. Refute it at one input. -/
def fnSubsetOrderWrong : ChangeSpec := { name := "fnSubsetOrder", fn := fun _ => fun
  | [d1, d2, d3, d4] => { results := [.lit (.bool false)], args := [d1, d2, d3, d4] }
  | _ => none }
def FnSubsetOrderWrongFalsely : Prop := fnSubsetOrderRow.holds Try.pinned (OpenSpec.ofChange fnSubsetOrderWrong)

/-- 'laws.FnNeutral': WHATEVER THE INPUT: true; the input reads as it did. -/
def fnNeutralSpec : ChangeSpec := { name := "fnNeutral", fn := fun _ => fun
  | [d1, d2] => { results := [.lit (.bool true)], args := [d1, d2] }
  | _ => none }
def fnNeutralRow : OpenClaim := { program := "ytehadfnaknpagaa", sum := "fd36e5fe2524bcaf850002798836aec759a073202ab97ab9395087255f8d93fb", func := "termset/laws.FnNeutral", spec := "fnNeutral", apart := false }
def FnNeutralSaid : Prop := fnNeutralRow.holds Try.pinned (OpenSpec.ofChange fnNeutralSpec)

/-- ITS FALSE NEIGHBOUR: 'it returns false'. Refute it at one input. -/
def fnNeutralWrong : ChangeSpec := { name := "fnNeutral", fn := fun _ => fun
  | [d1, d2] => { results := [.lit (.bool false)], args := [d1, d2] }
  | _ => none }
def FnNeutralWrongFalsely : Prop := fnNeutralRow.holds Try.pinned (OpenSpec.ofChange fnNeutralWrong)

/-- 'laws.FnTermSubsetOf': WHATEVER THE INPUT: true; the input reads as it did. -/
def fnTermSubsetOfSpec : ChangeSpec := { name := "fnTermSubsetOf", fn := fun _ => fun
  | [d1, d2, d3] => { results := [.lit (.bool true)], args := [d1, d2, d3] }
  | _ => none }
def fnTermSubsetOfRow : OpenClaim := { program := "ytehadfnaknpagaa", sum := "fd36e5fe2524bcaf850002798836aec759a073202ab97ab9395087255f8d93fb", func := "termset/laws.FnTermSubsetOf", spec := "fnTermSubsetOf", apart := false }
def FnTermSubsetOfSaid : Prop := fnTermSubsetOfRow.holds Try.pinned (OpenSpec.ofChange fnTermSubsetOfSpec)

/-- ITS FALSE NEIGHBOUR: 'it returns false'. Refute it at one input. -/
def fnTermSubsetOfWrong : ChangeSpec := { name := "fnTermSubsetOf", fn := fun _ => fun
  | [d1, d2, d3] => { results := [.lit (.bool false)], args := [d1, d2, d3] }
  | _ => none }
def FnTermSubsetOfWrongFalsely : Prop := fnTermSubsetOfRow.holds Try.pinned (OpenSpec.ofChange fnTermSubsetOfWrong)

/-- 'laws.FnSupersetOf': WHATEVER THE INPUT: true; the input reads as it did. -/
def fnSupersetOfSpec : ChangeSpec := { name := "fnSupersetOf", fn := fun _ => fun
  | [d1, d2, d3] => { results := [.lit (.bool true)], args := [d1, d2, d3] }
  | _ => none }
def fnSupersetOfRow : OpenClaim := { program := "ytehadfnaknpagaa", sum := "fd36e5fe2524bcaf850002798836aec759a073202ab97ab9395087255f8d93fb", func := "termset/laws.FnSupersetOf", spec := "fnSupersetOf", apart := false }
def FnSupersetOfSaid : Prop := fnSupersetOfRow.holds Try.pinned (OpenSpec.ofChange fnSupersetOfSpec)

/-- ITS FALSE NEIGHBOUR: 'it returns false'. Refute it at one input. -/
def fnSupersetOfWrong : ChangeSpec := { name := "fnSupersetOf", fn := fun _ => fun
  | [d1, d2, d3] => { results := [.lit (.bool false)], args := [d1, d2, d3] }
  | _ => none }
def FnSupersetOfWrongFalsely : Prop := fnSupersetOfRow.holds Try.pinned (OpenSpec.ofChange fnSupersetOfWrong)

/-- 'laws.FnTildes': WHATEVER THE INPUT: true; the input reads as it did. -/
def fnTildesSpec : ChangeSpec := { name := "fnTildes", fn := fun _ => fun
  | [d1, d2, d3] => { results := [.lit (.bool true)], args := [d1, d2, d3] }
  | _ => none }
def fnTildesRow : OpenClaim := { program := "ytehadfnaknpagaa", sum := "fd36e5fe2524bcaf850002798836aec759a073202ab97ab9395087255f8d93fb", func := "termset/laws.FnTildes", spec := "fnTildes", apart := false }
def FnTildesSaid : Prop := fnTildesRow.holds Try.pinned (OpenSpec.ofChange fnTildesSpec)

/-- ITS FALSE NEIGHBOUR: 'it returns false'. Refute it at one input. -/
def fnTildesWrong : ChangeSpec := { name := "fnTildes", fn := fun _ => fun
  | [d1, d2, d3] => { results := [.lit (.bool false)], args := [d1, d2, d3] }
  | _ => none }
def FnTildesWrongFalsely : Prop := fnTildesRow.holds Try.pinned (OpenSpec.ofChange fnTildesWrong)

/-- 'laws.FnTermIntersect': WHATEVER THE INPUT: true; the input reads as it did. -/
def fnTermIntersectSpec : ChangeSpec := { name := "fnTermIntersect", fn := fun _ => fun
  | [d1, d2, d3] => { results := [.lit (.bool true)], args := [d1, d2, d3] }
  | _ => none }
def fnTermIntersectRow : OpenClaim := { program := "ytehadfnaknpagaa", sum := "fd36e5fe2524bcaf850002798836aec759a073202ab97ab9395087255f8d93fb", func := "termset/laws.FnTermIntersect", spec := "fnTermIntersect", apart := false }
def FnTermIntersectSaid : Prop := fnTermIntersectRow.holds Try.pinned (OpenSpec.ofChange fnTermIntersectSpec)

/-- ITS FALSE NEIGHBOUR: 'it returns false'. Refute it at one input. -/
def fnTermIntersectWrong : ChangeSpec := { name := "fnTermIntersect", fn := fun _ => fun
  | [d1, d2, d3] => { results := [.lit (.bool false)], args := [d1, d2, d3] }
  | _ => none }
def FnTermIntersectWrongFalsely : Prop := fnTermIntersectRow.holds Try.pinned (OpenSpec.ofChange fnTermIntersectWrong)

/-- 'laws.FnTermUnion': WHATEVER THE INPUT: true; the input reads as it did. -/
def fnTermUnionSpec : ChangeSpec := { name := "fnTermUnion", fn := fun _ => fun
  | [d1, d2, d3] => { results := [.lit (.bool true)], args := [d1, d2, d3] }
  | _ => none }
def fnTermUnionRow : OpenClaim := { program := "ytehadfnaknpagaa", sum := "fd36e5fe2524bcaf850002798836aec759a073202ab97ab9395087255f8d93fb", func := "termset/laws.FnTermUnion", spec := "fnTermUnion", apart := false }
def FnTermUnionSaid : Prop := fnTermUnionRow.holds Try.pinned (OpenSpec.ofChange fnTermUnionSpec)

/-- ITS FALSE NEIGHBOUR: 'it returns false'. Refute it at one input. -/
def fnTermUnionWrong : ChangeSpec := { name := "fnTermUnion", fn := fun _ => fun
  | [d1, d2, d3] => { results := [.lit (.bool false)], args := [d1, d2, d3] }
  | _ => none }
def FnTermUnionWrongFalsely : Prop := fnTermUnionRow.holds Try.pinned (OpenSpec.ofChange fnTermUnionWrong)

/-- 'laws.FnSubsetOf': WHATEVER THE INPUT: true; the input reads as it did. -/
def fnSubsetOfSpec : ChangeSpec := { name := "fnSubsetOf", fn := fun _ => fun
  | [d1, d2, d3] => { results := [.lit (.bool true)], args := [d1, d2, d3] }
  | _ => none }
def fnSubsetOfRow : OpenClaim := { program := "ytehadfnaknpagaa", sum := "fd36e5fe2524bcaf850002798836aec759a073202ab97ab9395087255f8d93fb", func := "termset/laws.FnSubsetOf", spec := "fnSubsetOf", apart := false }
def FnSubsetOfSaid : Prop := fnSubsetOfRow.holds Try.pinned (OpenSpec.ofChange fnSubsetOfSpec)

/-- ITS FALSE NEIGHBOUR: 'it returns false'. Refute it at one input. -/
def fnSubsetOfWrong : ChangeSpec := { name := "fnSubsetOf", fn := fun _ => fun
  | [d1, d2, d3] => { results := [.lit (.bool false)], args := [d1, d2, d3] }
  | _ => none }
def FnSubsetOfWrongFalsely : Prop := fnSubsetOfRow.holds Try.pinned (OpenSpec.ofChange fnSubsetOfWrong)

/-- 'laws.FnEqual': WHATEVER THE INPUT: true; the input reads as it did. -/
def fnEqualSpec : ChangeSpec := { name := "fnEqual", fn := fun _ => fun
  | [d1, d2, d3] => { results := [.lit (.bool true)], args := [d1, d2, d3] }
  | _ => none }
def fnEqualRow : OpenClaim := { program := "ytehadfnaknpagaa", sum := "fd36e5fe2524bcaf850002798836aec759a073202ab97ab9395087255f8d93fb", func := "termset/laws.FnEqual", spec := "fnEqual", apart := false }
def FnEqualSaid : Prop := fnEqualRow.holds Try.pinned (OpenSpec.ofChange fnEqualSpec)

/-- ITS FALSE NEIGHBOUR: 'it returns false'. Refute it at one input. -/
def fnEqualWrong : ChangeSpec := { name := "fnEqual", fn := fun _ => fun
  | [d1, d2, d3] => { results := [.lit (.bool false)], args := [d1, d2, d3] }
  | _ => none }
def FnEqualWrongFalsely : Prop := fnEqualRow.holds Try.pinned (OpenSpec.ofChange fnEqualWrong)

/-- 'laws.FnOneByOne': WHATEVER THE INPUT: true; the input reads as it did. -/
def fnOneByOneSpec : ChangeSpec := { name := "fnOneByOne", fn := fun _ => fun
  | [d1, d2, d3] => { results := [.lit (.bool true)], args := [d1, d2, d3] }
  | _ => none }
def fnOneByOneRow : OpenClaim := { program := "ytehadfnaknpagaa", sum := "fd36e5fe2524bcaf850002798836aec759a073202ab97ab9395087255f8d93fb", func := "termset/laws.FnOneByOne", spec := "fnOneByOne", apart := false }
def FnOneByOneSaid : Prop := fnOneByOneRow.holds Try.pinned (OpenSpec.ofChange fnOneByOneSpec)

/-- ITS FALSE NEIGHBOUR: 'it returns false'. Refute it at one input. -/
def fnOneByOneWrong : ChangeSpec := { name := "fnOneByOne", fn := fun _ => fun
  | [d1, d2, d3] => { results := [.lit (.bool false)], args := [d1, d2, d3] }
  | _ => none }
def FnOneByOneWrongFalsely : Prop := fnOneByOneRow.holds Try.pinned (OpenSpec.ofChange fnOneByOneWrong)

/-- 'laws.FnSubsetIncludes': WHATEVER THE INPUT: true; the input reads as it did. -/
def fnSubsetIncludesSpec : ChangeSpec := { name := "fnSubsetIncludes", fn := fun _ => fun
  | [d1, d2, d3, d4] => { results := [.lit (.bool true)], args := [d1, d2, d3, d4] }
  | _ => none }
def fnSubsetIncludesRow : OpenClaim := { program := "ytehadfnaknpagaa", sum := "fd36e5fe2524bcaf850002798836aec759a073202ab97ab9395087255f8d93fb", func := "termset/laws.FnSubsetIncludes", spec := "fnSubsetIncludes", apart := false }
def FnSubsetIncludesSaid : Prop := fnSubsetIncludesRow.holds Try.pinned (OpenSpec.ofChange fnSubsetIncludesSpec)

/-- ITS FALSE NEIGHBOUR: 'it returns false'. Refute it at one input. -/
def fnSubsetIncludesWrong : ChangeSpec := { name := "fnSubsetIncludes", fn := fun _ => fun
  | [d1, d2, d3, d4] => { results := [.lit (.bool false)], args := [d1, d2, d3, d4] }
  | _ => none }
def FnSubsetIncludesWrongFalsely : Prop := fnSubsetIncludesRow.holds Try.pinned (OpenSpec.ofChange fnSubsetIncludesWrong)

/-- 'laws.FnNorm': WHATEVER THE INPUT: true; the input reads as it did. -/
def fnNormSpec : ChangeSpec := { name := "fnNorm", fn := fun _ => fun
  | [d1, d2] => { results := [.lit (.bool true)], args := [d1, d2] }
  | _ => none }
def fnNormRow : OpenClaim := { program := "ytehadfnaknpagaa", sum := "fd36e5fe2524bcaf850002798836aec759a073202ab97ab9395087255f8d93fb", func := "termset/laws.FnNorm", spec := "fnNorm", apart := false }
def FnNormSaid : Prop := fnNormRow.holds Try.pinned (OpenSpec.ofChange fnNormSpec)

/-- ITS FALSE NEIGHBOUR: 'it returns false'. Refute it at one input. -/
def fnNormWrong : ChangeSpec := { name := "fnNorm", fn := fun _ => fun
  | [d1, d2] => { results := [.lit (.bool false)], args := [d1, d2] }
  | _ => none }
def FnNormWrongFalsely : Prop := fnNormRow.holds Try.pinned (OpenSpec.ofChange fnNormWrong)

/-- 'laws.FnNormShort': WHATEVER THE INPUT: true; the input reads as it did. -/
def fnNormShortSpec : ChangeSpec := { name := "fnNormShort", fn := fun _ => fun
  | [d1, d2] => { results := [.lit (.bool true)], args := [d1, d2] }
  | _ => none }
def fnNormShortRow : OpenClaim := { program := "ytehadfnaknpagaa", sum := "fd36e5fe2524bcaf850002798836aec759a073202ab97ab9395087255f8d93fb", func := "termset/laws.FnNormShort", spec := "fnNormShort", apart := false }
def FnNormShortSaid : Prop := fnNormShortRow.holds Try.pinned (OpenSpec.ofChange fnNormShortSpec)

/-- ITS FALSE NEIGHBOUR: 'it returns false'. Refute it at one input. -/
def fnNormShortWrong : ChangeSpec := { name := "fnNormShort", fn := fun _ => fun
  | [d1, d2] => { results := [.lit (.bool false)], args := [d1, d2] }
  | _ => none }
def FnNormShortWrongFalsely : Prop := fnNormShortRow.holds Try.pinned (OpenSpec.ofChange fnNormShortWrong)

/-- 'laws.FnUnion': WHATEVER THE INPUT: true; the input reads as it did. -/
def fnUnionSpec : ChangeSpec := { name := "fnUnion", fn := fun _ => fun
  | [d1, d2, d3] => { results := [.lit (.bool true)], args := [d1, d2, d3] }
  | _ => none }
def fnUnionRow : OpenClaim := { program := "ytehadfnaknpagaa", sum := "fd36e5fe2524bcaf850002798836aec759a073202ab97ab9395087255f8d93fb", func := "termset/laws.FnUnion", spec := "fnUnion", apart := false }
def FnUnionSaid : Prop := fnUnionRow.holds Try.pinned (OpenSpec.ofChange fnUnionSpec)

/-- ITS FALSE NEIGHBOUR: 'it returns false'. Refute it at one input. -/
def fnUnionWrong : ChangeSpec := { name := "fnUnion", fn := fun _ => fun
  | [d1, d2, d3] => { results := [.lit (.bool false)], args := [d1, d2, d3] }
  | _ => none }
def FnUnionWrongFalsely : Prop := fnUnionRow.holds Try.pinned (OpenSpec.ofChange fnUnionWrong)

/-- 'laws.FnNormEqual': WHATEVER THE INPUT: true; the input reads as it did. -/
def fnNormEqualSpec : ChangeSpec := { name := "fnNormEqual", fn := fun _ => fun
  | [d1, d2, d3] => { results := [.lit (.bool true)], args := [d1, d2, d3] }
  | _ => none }
def fnNormEqualRow : OpenClaim := { program := "ytehadfnaknpagaa", sum := "fd36e5fe2524bcaf850002798836aec759a073202ab97ab9395087255f8d93fb", func := "termset/laws.FnNormEqual", spec := "fnNormEqual", apart := false }
def FnNormEqualSaid : Prop := fnNormEqualRow.holds Try.pinned (OpenSpec.ofChange fnNormEqualSpec)

/-- ITS FALSE NEIGHBOUR: 'it returns false'. Refute it at one input. -/
def fnNormEqualWrong : ChangeSpec := { name := "fnNormEqual", fn := fun _ => fun
  | [d1, d2, d3] => { results := [.lit (.bool false)], args := [d1, d2, d3] }
  | _ => none }
def FnNormEqualWrongFalsely : Prop := fnNormEqualRow.holds Try.pinned (OpenSpec.ofChange fnNormEqualWrong)

/-- 'laws.FnSingle': WHATEVER THE INPUT: true; the input reads as it did. -/
def fnSingleSpec : ChangeSpec := { name := "fnSingle", fn := fun _ => fun
  | [d1, d2, d3, d4] => { results := [.lit (.bool true)], args := [d1, d2, d3, d4] }
  | _ => none }
def fnSingleRow : OpenClaim := { program := "ytehadfnaknpagaa", sum := "fd36e5fe2524bcaf850002798836aec759a073202ab97ab9395087255f8d93fb", func := "termset/laws.FnSingle", spec := "fnSingle", apart := false }
def FnSingleSaid : Prop := fnSingleRow.holds Try.pinned (OpenSpec.ofChange fnSingleSpec)

/-- ITS FALSE NEIGHBOUR: 'it returns false'. Refute it at one input. -/
def fnSingleWrong : ChangeSpec := { name := "fnSingle", fn := fun _ => fun
  | [d1, d2, d3, d4] => { results := [.lit (.bool false)], args := [d1, d2, d3, d4] }
  | _ => none }
def FnSingleWrongFalsely : Prop := fnSingleRow.holds Try.pinned (OpenSpec.ofChange fnSingleWrong)

/-- 'laws.FnIntersect': WHATEVER THE INPUT: true; the input reads as it did. -/
def fnIntersectSpec : ChangeSpec := { name := "fnIntersect", fn := fun _ => fun
  | [d1, d2, d3] => { results := [.lit (.bool true)], args := [d1, d2, d3] }
  | _ => none }
def fnIntersectRow : OpenClaim := { program := "ytehadfnaknpagaa", sum := "fd36e5fe2524bcaf850002798836aec759a073202ab97ab9395087255f8d93fb", func := "termset/laws.FnIntersect", spec := "fnIntersect", apart := false }
def FnIntersectSaid : Prop := fnIntersectRow.holds Try.pinned (OpenSpec.ofChange fnIntersectSpec)

/-- ITS FALSE NEIGHBOUR: 'it returns false'. Refute it at one input. -/
def fnIntersectWrong : ChangeSpec := { name := "fnIntersect", fn := fun _ => fun
  | [d1, d2, d3] => { results := [.lit (.bool false)], args := [d1, d2, d3] }
  | _ => none }
def FnIntersectWrongFalsely : Prop := fnIntersectRow.holds Try.pinned (OpenSpec.ofChange fnIntersectWrong)

/-- 'laws.FnAbsorbs': WHATEVER THE INPUT: true; the input reads as it did. -/
def fnAbsorbsSpec : ChangeSpec := { name := "fnAbsorbs", fn := fun _ => fun
  | [d1, d2, d3] => { results := [.lit (.bool true)], args := [d1, d2, d3] }
  | _ => none }
def fnAbsorbsRow : OpenClaim := { program := "ytehadfnaknpagaa", sum := "fd36e5fe2524bcaf850002798836aec759a073202ab97ab9395087255f8d93fb", func := "termset/laws.FnAbsorbs", spec := "fnAbsorbs", apart := false }
def FnAbsorbsSaid : Prop := fnAbsorbsRow.holds Try.pinned (OpenSpec.ofChange fnAbsorbsSpec)

/-- ITS FALSE NEIGHBOUR: 'it returns false'. Refute it at one input. -/
def fnAbsorbsWrong : ChangeSpec := { name := "fnAbsorbs", fn := fun _ => fun
  | [d1, d2, d3] => { results := [.lit (.bool false)], args := [d1, d2, d3] }
  | _ => none }
def FnAbsorbsWrongFalsely : Prop := fnAbsorbsRow.holds Try.pinned (OpenSpec.ofChange fnAbsorbsWrong)

/-- 'laws.FnAssociates': WHATEVER THE INPUT: true; the input reads as it did. -/
def fnAssociatesSpec : ChangeSpec := { name := "fnAssociates", fn := fun _ => fun
  | [d1, d2, d3, d4] => { results := [.lit (.bool true)], args := [d1, d2, d3, d4] }
  | _ => none }
def fnAssociatesRow : OpenClaim := { program := "ytehadfnaknpagaa", sum := "fd36e5fe2524bcaf850002798836aec759a073202ab97ab9395087255f8d93fb", func := "termset/laws.FnAssociates", spec := "fnAssociates", apart := false }
def FnAssociatesSaid : Prop := fnAssociatesRow.holds Try.pinned (OpenSpec.ofChange fnAssociatesSpec)

/-- ITS FALSE NEIGHBOUR: 'it returns false'. Refute it at one input. -/
def fnAssociatesWrong : ChangeSpec := { name := "fnAssociates", fn := fun _ => fun
  | [d1, d2, d3, d4] => { results := [.lit (.bool false)], args := [d1, d2, d3, d4] }
  | _ => none }
def FnAssociatesWrongFalsely : Prop := fnAssociatesRow.holds Try.pinned (OpenSpec.ofChange fnAssociatesWrong)

/-- 'laws.FnCommutes': WHATEVER THE INPUT: true; the input reads as it did. -/
def fnCommutesSpec : ChangeSpec := { name := "fnCommutes", fn := fun _ => fun
  | [d1, d2, d3] => { results := [.lit (.bool true)], args := [d1, d2, d3] }
  | _ => none }
def fnCommutesRow : OpenClaim := { program := "ytehadfnaknpagaa", sum := "fd36e5fe2524bcaf850002798836aec759a073202ab97ab9395087255f8d93fb", func := "termset/laws.FnCommutes", spec := "fnCommutes", apart := false }
def FnCommutesSaid : Prop := fnCommutesRow.holds Try.pinned (OpenSpec.ofChange fnCommutesSpec)

/-- ITS FALSE NEIGHBOUR: 'it returns false'. Refute it at one input. -/
def fnCommutesWrong : ChangeSpec := { name := "fnCommutes", fn := fun _ => fun
  | [d1, d2, d3] => { results := [.lit (.bool false)], args := [d1, d2, d3] }
  | _ => none }
def FnCommutesWrongFalsely : Prop := fnCommutesRow.holds Try.pinned (OpenSpec.ofChange fnCommutesWrong)

/-- 'laws.FnDistributes': WHATEVER THE INPUT: true; the input reads as it did. -/
def fnDistributesSpec : ChangeSpec := { name := "fnDistributes", fn := fun _ => fun
  | [d1, d2, d3, d4] => { results := [.lit (.bool true)], args := [d1, d2, d3, d4] }
  | _ => none }
def fnDistributesRow : OpenClaim := { program := "ytehadfnaknpagaa", sum := "fd36e5fe2524bcaf850002798836aec759a073202ab97ab9395087255f8d93fb", func := "termset/laws.FnDistributes", spec := "fnDistributes", apart := false }
def FnDistributesSaid : Prop := fnDistributesRow.holds Try.pinned (OpenSpec.ofChange fnDistributesSpec)

/-- ITS FALSE NEIGHBOUR: 'it returns false'. Refute it at one input. -/
def fnDistributesWrong : ChangeSpec := { name := "fnDistributes", fn := fun _ => fun
  | [d1, d2, d3, d4] => { results := [.lit (.bool false)], args := [d1, d2, d3, d4] }
  | _ => none }
def FnDistributesWrongFalsely : Prop := fnDistributesRow.holds Try.pinned (OpenSpec.ofChange fnDistributesWrong)

/- THE SECOND FORM. 'bulk': how many values and letters a reading holds, each counted each time it is reached (what is shared counts as often as it is met; a slice's spare places count too). A statement '..UptoSaid' is the law's where the arguments, and the package variables that the reading takes, are together of bulk at most 1048576: NARROWER than '..Said'. Prove '..Said' where nothing that the law and all that it calls make is longer than what came in: it says more and counts as full. Else prove '..UptoSaid'. A law counts once. -/
mutual
def uptoBulk {H : Type} : DataW H → Nat
  | .lit (.string bytes) => bytes.length + 1
  | .lit _ => 1
  | .nil => 1
  | .ptr d => uptoBulk d + 1
  | .slice elems spare => uptoBulkAll elems + uptoBulkAll spare + 1
  | .agg parts => uptoBulkAll parts + 1
  | .iface _ d => uptoBulk d + 1
  | .map entries => uptoBulkEntries entries + 1
  | .held _ => 1
def uptoBulkAll {H : Type} : List (DataW H) → Nat
  | [] => 0
  | d :: r => uptoBulk d + uptoBulkAll r
def uptoBulkEntries {H : Type} : List (Lit × DataW H) → Nat
  | [] => 0
  | x :: r => uptoBulkEntry x + uptoBulkEntries r
def uptoBulkEntry {H : Type} : Lit × DataW H → Nat
  | (.string bytes, d) => bytes.length + uptoBulk d + 1
  | (_, d) => uptoBulk d + 1
 end
def uptoSmall : (H : Type) → List (DataW H) → Bool := fun _ ds => decide (uptoBulkAll ds ≤ 1048576)
def OpenSpec.upto (s : _root_.Go.ChangeSpec) : _root_.Go.OpenSpec := { _root_.Go.OpenSpec.ofChange s with cond := some uptoSmall }

/-- 'laws.FnIsAll', WHERE WHAT IT READS IS OF BULK AT MOST 1048576: true; the input reads as it did. -/
def fnIsAllUptoRow : OpenClaim := { program := "ytehadfnaknpagaa", sum := "fd36e5fe2524bcaf850002798836aec759a073202ab97ab9395087255f8d93fb", func := "termset/laws.FnIsAll", spec := "fnIsAll", apart := false, narrowed := true }
def FnIsAllUptoSaid : Prop := fnIsAllUptoRow.holds Try.pinned (OpenSpec.upto fnIsAllSpec)

/-- 'laws.FnIsEmpty', WHERE WHAT IT READS IS OF BULK AT MOST 1048576: true; the input reads as it did. -/
def fnIsEmptyUptoRow : OpenClaim := { program := "ytehadfnaknpagaa", sum := "fd36e5fe2524bcaf850002798836aec759a073202ab97ab9395087255f8d93fb", func := "termset/laws.FnIsEmpty", spec := "fnIsEmpty", apart := false, narrowed := true }
def FnIsEmptyUptoSaid : Prop := fnIsEmptyUptoRow.holds Try.pinned (OpenSpec.upto fnIsEmptySpec)

/-- 'laws.FnTermIncludes', WHERE WHAT IT READS IS OF BULK AT MOST 1048576: true; the input reads as it did. -/
def fnTermIncludesUptoRow : OpenClaim := { program := "ytehadfnaknpagaa", sum := "fd36e5fe2524bcaf850002798836aec759a073202ab97ab9395087255f8d93fb", func := "termset/laws.FnTermIncludes", spec := "fnTermIncludes", apart := false, narrowed := true }
def FnTermIncludesUptoSaid : Prop := fnTermIncludesUptoRow.holds Try.pinned (OpenSpec.upto fnTermIncludesSpec)

/-- 'laws.FnMembers', WHERE WHAT IT READS IS OF BULK AT MOST 1048576: true; the input reads as it did. -/
def fnMembersUptoRow : OpenClaim := { program := "ytehadfnaknpagaa", sum := "fd36e5fe2524bcaf850002798836aec759a073202ab97ab9395087255f8d93fb", func := "termset/laws.FnMembers", spec := "fnMembers", apart := false, narrowed := true }
def FnMembersUptoSaid : Prop := fnMembersUptoRow.holds Try.pinned (OpenSpec.upto fnMembersSpec)

/-- 'laws.FnIncludes', WHERE WHAT IT READS IS OF BULK AT MOST 1048576: true; the input reads as it did. -/
def fnIncludesUptoRow : OpenClaim := { program := "ytehadfnaknpagaa", sum := "fd36e5fe2524bcaf850002798836aec759a073202ab97ab9395087255f8d93fb", func := "termset/laws.FnIncludes", spec := "fnIncludes", apart := false, narrowed := true }
def FnIncludesUptoSaid : Prop := fnIncludesUptoRow.holds Try.pinned (OpenSpec.upto fnIncludesSpec)

/-- 'laws.FnTermEqual', WHERE WHAT IT READS IS OF BULK AT MOST 1048576: true; the input reads as it did. -/
def fnTermEqualUptoRow : OpenClaim := { program := "ytehadfnaknpagaa", sum := "fd36e5fe2524bcaf850002798836aec759a073202ab97ab9395087255f8d93fb", func := "termset/laws.FnTermEqual", spec := "fnTermEqual", apart := false, narrowed := true }
def FnTermEqualUptoSaid : Prop := fnTermEqualUptoRow.holds Try.pinned (OpenSpec.upto fnTermEqualSpec)

/-- 'laws.FnTermDisjoint', WHERE WHAT IT READS IS OF BULK AT MOST 1048576: true; the input reads as it did. -/
def fnTermDisjointUptoRow : OpenClaim := { program := "ytehadfnaknpagaa", sum := "fd36e5fe2524bcaf850002798836aec759a073202ab97ab9395087255f8d93fb", func := "termset/laws.FnTermDisjoint", spec := "fnTermDisjoint", apart := false, narrowed := true }
def FnTermDisjointUptoSaid : Prop := fnTermDisjointUptoRow.holds Try.pinned (OpenSpec.upto fnTermDisjointSpec)

/-- 'laws.FnSubsetUnion', WHERE WHAT IT READS IS OF BULK AT MOST 1048576: true; the input reads as it did. -/
def fnSubsetUnionUptoRow : OpenClaim := { program := "ytehadfnaknpagaa", sum := "fd36e5fe2524bcaf850002798836aec759a073202ab97ab9395087255f8d93fb", func := "termset/laws.FnSubsetUnion", spec := "fnSubsetUnion", apart := false, narrowed := true }
def FnSubsetUnionUptoSaid : Prop := fnSubsetUnionUptoRow.holds Try.pinned (OpenSpec.upto fnSubsetUnionSpec)

/-- 'laws.FnOrder', WHERE WHAT IT READS IS OF BULK AT MOST 1048576: true; the input reads as it did. -/
def fnOrderUptoRow : OpenClaim := { program := "ytehadfnaknpagaa", sum := "fd36e5fe2524bcaf850002798836aec759a073202ab97ab9395087255f8d93fb", func := "termset/laws.FnOrder", spec := "fnOrder", apart := false, narrowed := true }
def FnOrderUptoSaid : Prop := fnOrderUptoRow.holds Try.pinned (OpenSpec.upto fnOrderSpec)

/-- 'laws.FnSubsetOrder', WHERE WHAT IT READS IS OF BULK AT MOST 1048576: true; the input reads as it did. -/
def fnSubsetOrderUptoRow : OpenClaim := { program := "ytehadfnaknpagaa", sum := "fd36e5fe2524bcaf850002798836aec759a073202ab97ab9395087255f8d93fb", func := "termset/laws.FnSubsetOrder", spec := "fnSubsetOrder", apart := false, narrowed := true }
def FnSubsetOrderUptoSaid : Prop := fnSubsetOrderUptoRow.holds Try.pinned (OpenSpec.upto fnSubsetOrderSpec)

/-- 'laws.FnNeutral', WHERE WHAT IT READS IS OF BULK AT MOST 1048576: true; the input reads as it did. -/
def fnNeutralUptoRow : OpenClaim := { program := "ytehadfnaknpagaa", sum := "fd36e5fe2524bcaf850002798836aec759a073202ab97ab9395087255f8d93fb", func := "termset/laws.FnNeutral", spec := "fnNeutral", apart := false, narrowed := true }
def FnNeutralUptoSaid : Prop := fnNeutralUptoRow.holds Try.pinned (OpenSpec.upto fnNeutralSpec)

/-- 'laws.FnTermSubsetOf', WHERE WHAT IT READS IS OF BULK AT MOST 1048576: true; the input reads as it did. -/
def fnTermSubsetOfUptoRow : OpenClaim := { program := "ytehadfnaknpagaa", sum := "fd36e5fe2524bcaf850002798836aec759a073202ab97ab9395087255f8d93fb", func := "termset/laws.FnTermSubsetOf", spec := "fnTermSubsetOf", apart := false, narrowed := true }
def FnTermSubsetOfUptoSaid : Prop := fnTermSubsetOfUptoRow.holds Try.pinned (OpenSpec.upto fnTermSubsetOfSpec)

/-- 'laws.FnSupersetOf', WHERE WHAT IT READS IS OF BULK AT MOST 1048576: true; the input reads as it did. -/
def fnSupersetOfUptoRow : OpenClaim := { program := "ytehadfnaknpagaa", sum := "fd36e5fe2524bcaf850002798836aec759a073202ab97ab9395087255f8d93fb", func := "termset/laws.FnSupersetOf", spec := "fnSupersetOf", apart := false, narrowed := true }
def FnSupersetOfUptoSaid : Prop := fnSupersetOfUptoRow.holds Try.pinned (OpenSpec.upto fnSupersetOfSpec)

/-- 'laws.FnTildes', WHERE WHAT IT READS IS OF BULK AT MOST 1048576: true; the input reads as it did. -/
def fnTildesUptoRow : OpenClaim := { program := "ytehadfnaknpagaa", sum := "fd36e5fe2524bcaf850002798836aec759a073202ab97ab9395087255f8d93fb", func := "termset/laws.FnTildes", spec := "fnTildes", apart := false, narrowed := true }
def FnTildesUptoSaid : Prop := fnTildesUptoRow.holds Try.pinned (OpenSpec.upto fnTildesSpec)

/-- 'laws.FnTermIntersect', WHERE WHAT IT READS IS OF BULK AT MOST 1048576: true; the input reads as it did. -/
def fnTermIntersectUptoRow : OpenClaim := { program := "ytehadfnaknpagaa", sum := "fd36e5fe2524bcaf850002798836aec759a073202ab97ab9395087255f8d93fb", func := "termset/laws.FnTermIntersect", spec := "fnTermIntersect", apart := false, narrowed := true }
def FnTermIntersectUptoSaid : Prop := fnTermIntersectUptoRow.holds Try.pinned (OpenSpec.upto fnTermIntersectSpec)

/-- 'laws.FnTermUnion', WHERE WHAT IT READS IS OF BULK AT MOST 1048576: true; the input reads as it did. -/
def fnTermUnionUptoRow : OpenClaim := { program := "ytehadfnaknpagaa", sum := "fd36e5fe2524bcaf850002798836aec759a073202ab97ab9395087255f8d93fb", func := "termset/laws.FnTermUnion", spec := "fnTermUnion", apart := false, narrowed := true }
def FnTermUnionUptoSaid : Prop := fnTermUnionUptoRow.holds Try.pinned (OpenSpec.upto fnTermUnionSpec)

/-- 'laws.FnSubsetOf', WHERE WHAT IT READS IS OF BULK AT MOST 1048576: true; the input reads as it did. -/
def fnSubsetOfUptoRow : OpenClaim := { program := "ytehadfnaknpagaa", sum := "fd36e5fe2524bcaf850002798836aec759a073202ab97ab9395087255f8d93fb", func := "termset/laws.FnSubsetOf", spec := "fnSubsetOf", apart := false, narrowed := true }
def FnSubsetOfUptoSaid : Prop := fnSubsetOfUptoRow.holds Try.pinned (OpenSpec.upto fnSubsetOfSpec)

/-- 'laws.FnEqual', WHERE WHAT IT READS IS OF BULK AT MOST 1048576: true; the input reads as it did. -/
def fnEqualUptoRow : OpenClaim := { program := "ytehadfnaknpagaa", sum := "fd36e5fe2524bcaf850002798836aec759a073202ab97ab9395087255f8d93fb", func := "termset/laws.FnEqual", spec := "fnEqual", apart := false, narrowed := true }
def FnEqualUptoSaid : Prop := fnEqualUptoRow.holds Try.pinned (OpenSpec.upto fnEqualSpec)

/-- 'laws.FnOneByOne', WHERE WHAT IT READS IS OF BULK AT MOST 1048576: true; the input reads as it did. -/
def fnOneByOneUptoRow : OpenClaim := { program := "ytehadfnaknpagaa", sum := "fd36e5fe2524bcaf850002798836aec759a073202ab97ab9395087255f8d93fb", func := "termset/laws.FnOneByOne", spec := "fnOneByOne", apart := false, narrowed := true }
def FnOneByOneUptoSaid : Prop := fnOneByOneUptoRow.holds Try.pinned (OpenSpec.upto fnOneByOneSpec)

/-- 'laws.FnSubsetIncludes', WHERE WHAT IT READS IS OF BULK AT MOST 1048576: true; the input reads as it did. -/
def fnSubsetIncludesUptoRow : OpenClaim := { program := "ytehadfnaknpagaa", sum := "fd36e5fe2524bcaf850002798836aec759a073202ab97ab9395087255f8d93fb", func := "termset/laws.FnSubsetIncludes", spec := "fnSubsetIncludes", apart := false, narrowed := true }
def FnSubsetIncludesUptoSaid : Prop := fnSubsetIncludesUptoRow.holds Try.pinned (OpenSpec.upto fnSubsetIncludesSpec)

/-- 'laws.FnNorm', WHERE WHAT IT READS IS OF BULK AT MOST 1048576: true; the input reads as it did. -/
def fnNormUptoRow : OpenClaim := { program := "ytehadfnaknpagaa", sum := "fd36e5fe2524bcaf850002798836aec759a073202ab97ab9395087255f8d93fb", func := "termset/laws.FnNorm", spec := "fnNorm", apart := false, narrowed := true }
def FnNormUptoSaid : Prop := fnNormUptoRow.holds Try.pinned (OpenSpec.upto fnNormSpec)

/-- 'laws.FnNormShort', WHERE WHAT IT READS IS OF BULK AT MOST 1048576: true; the input reads as it did. -/
def fnNormShortUptoRow : OpenClaim := { program := "ytehadfnaknpagaa", sum := "fd36e5fe2524bcaf850002798836aec759a073202ab97ab9395087255f8d93fb", func := "termset/laws.FnNormShort", spec := "fnNormShort", apart := false, narrowed := true }
def FnNormShortUptoSaid : Prop := fnNormShortUptoRow.holds Try.pinned (OpenSpec.upto fnNormShortSpec)

/-- 'laws.FnUnion', WHERE WHAT IT READS IS OF BULK AT MOST 1048576: true; the input reads as it did. -/
def fnUnionUptoRow : OpenClaim := { program := "ytehadfnaknpagaa", sum := "fd36e5fe2524bcaf850002798836aec759a073202ab97ab9395087255f8d93fb", func := "termset/laws.FnUnion", spec := "fnUnion", apart := false, narrowed := true }
def FnUnionUptoSaid : Prop := fnUnionUptoRow.holds Try.pinned (OpenSpec.upto fnUnionSpec)

/-- 'laws.FnNormEqual', WHERE WHAT IT READS IS OF BULK AT MOST 1048576: true; the input reads as it did. -/
def fnNormEqualUptoRow : OpenClaim := { program := "ytehadfnaknpagaa", sum := "fd36e5fe2524bcaf850002798836aec759a073202ab97ab9395087255f8d93fb", func := "termset/laws.FnNormEqual", spec := "fnNormEqual", apart := false, narrowed := true }
def FnNormEqualUptoSaid : Prop := fnNormEqualUptoRow.holds Try.pinned (OpenSpec.upto fnNormEqualSpec)

/-- 'laws.FnSingle', WHERE WHAT IT READS IS OF BULK AT MOST 1048576: true; the input reads as it did. -/
def fnSingleUptoRow : OpenClaim := { program := "ytehadfnaknpagaa", sum := "fd36e5fe2524bcaf850002798836aec759a073202ab97ab9395087255f8d93fb", func := "termset/laws.FnSingle", spec := "fnSingle", apart := false, narrowed := true }
def FnSingleUptoSaid : Prop := fnSingleUptoRow.holds Try.pinned (OpenSpec.upto fnSingleSpec)

/-- 'laws.FnIntersect', WHERE WHAT IT READS IS OF BULK AT MOST 1048576: true; the input reads as it did. -/
def fnIntersectUptoRow : OpenClaim := { program := "ytehadfnaknpagaa", sum := "fd36e5fe2524bcaf850002798836aec759a073202ab97ab9395087255f8d93fb", func := "termset/laws.FnIntersect", spec := "fnIntersect", apart := false, narrowed := true }
def FnIntersectUptoSaid : Prop := fnIntersectUptoRow.holds Try.pinned (OpenSpec.upto fnIntersectSpec)

/-- 'laws.FnAbsorbs', WHERE WHAT IT READS IS OF BULK AT MOST 1048576: true; the input reads as it did. -/
def fnAbsorbsUptoRow : OpenClaim := { program := "ytehadfnaknpagaa", sum := "fd36e5fe2524bcaf850002798836aec759a073202ab97ab9395087255f8d93fb", func := "termset/laws.FnAbsorbs", spec := "fnAbsorbs", apart := false, narrowed := true }
def FnAbsorbsUptoSaid : Prop := fnAbsorbsUptoRow.holds Try.pinned (OpenSpec.upto fnAbsorbsSpec)

/-- 'laws.FnAssociates', WHERE WHAT IT READS IS OF BULK AT MOST 1048576: true; the input reads as it did. -/
def fnAssociatesUptoRow : OpenClaim := { program := "ytehadfnaknpagaa", sum := "fd36e5fe2524bcaf850002798836aec759a073202ab97ab9395087255f8d93fb", func := "termset/laws.FnAssociates", spec := "fnAssociates", apart := false, narrowed := true }
def FnAssociatesUptoSaid : Prop := fnAssociatesUptoRow.holds Try.pinned (OpenSpec.upto fnAssociatesSpec)

/-- 'laws.FnCommutes', WHERE WHAT IT READS IS OF BULK AT MOST 1048576: true; the input reads as it did. -/
def fnCommutesUptoRow : OpenClaim := { program := "ytehadfnaknpagaa", sum := "fd36e5fe2524bcaf850002798836aec759a073202ab97ab9395087255f8d93fb", func := "termset/laws.FnCommutes", spec := "fnCommutes", apart := false, narrowed := true }
def FnCommutesUptoSaid : Prop := fnCommutesUptoRow.holds Try.pinned (OpenSpec.upto fnCommutesSpec)

/-- 'laws.FnDistributes', WHERE WHAT IT READS IS OF BULK AT MOST 1048576: true; the input reads as it did. -/
def fnDistributesUptoRow : OpenClaim := { program := "ytehadfnaknpagaa", sum := "fd36e5fe2524bcaf850002798836aec759a073202ab97ab9395087255f8d93fb", func := "termset/laws.FnDistributes", spec := "fnDistributes", apart := false, narrowed := true }
def FnDistributesUptoSaid : Prop := fnDistributesUptoRow.holds Try.pinned (OpenSpec.upto fnDistributesSpec)

end Rows
end Go.Proofs.Ytehadfnaknpagaa
