/-
  NARROWER THAN 'FOR EVERY INPUT', by the rows' own cells (each row's printed sentence says how): LawS6436AWhole: laid · LawS6436BWhole: laid.
  DERIVED. THE GIVEN ROWS OF THIS SEAT. 2 by the template 'for every input the law returns true; each argument reads behind the call as it read before'; 0 by the template 'total and deterministic' (their statements: YbulkecgoDoorTotals.lean).
  GIVEN WITH THE SEED: the statements are not yours to turn. If you find one false, say at which input.
  Laid BY PROGRAM, IN A SANDBOX (cutbox-rows.mjs): the forced cells as the released guide's own fill.sh prints them over the translation 2e72cf0670f8053e… (all of the seat's roots in one cut). By AI agents, Wed Nov 11 2026. No macro, syntax, notation, axiom, sorry.
-/
import Derived.Test.YbulkecgoDoorChecked
import GoSem.Claim
import GoSem.ClaimJoined
import GoSem.ClaimMapViews
import Derived.JoinedTies
import Derived.KernelRfl
namespace Go.Proofs.YbulkecgoDoor
/- THE CELL 'sum', in the pinned program and in every row, IS THE sha256 OF THE DUMP (.gsa) THAT YbulkecgoDoorProg.lean LOADS. Nothing in Lean hashes anything: it is a label: what it is worth is what the hold of that sum in a sandbox is worth. -/
noncomputable def Ybad.pinned : Pinned := { name := "ybulkecgodoor", sum := "2e72cf0670f8053e46394865c962c9d7368083a63b7af862d57d232a9336ff13", checked := Ybad.checked }
namespace Rows
def none {H : Type} : Left H := { results := [], args := [] }

/- WHAT THE LISTED PACKAGE-LEVEL VARIABLES READ AS WHEN THE CALL BEGINS. Each datum BY PROGRAM (the guide's laid-datum.mjs) off the statement by which the dump's own 'gosem.cut.vars' lays the variable. In a bare row this is a premise. The card (YbulkecgoDoorCards.lean) ties it to the program's text. -/
def laid_math_pow10tab {H : Type} : DataW H := .agg [.lit (.float .f64 4607182418800017408), .lit (.float .f64 4621819117588971520), .lit (.float .f64 4636737291354636288), .lit (.float .f64 4652007308841189376), .lit (.float .f64 4666723172467343360), .lit (.float .f64 4681608360884174848), .lit (.float .f64 4696837146684686336), .lit (.float .f64 4711630319722168320), .lit (.float .f64 4726483295884279808), .lit (.float .f64 4741671816366391296), .lit (.float .f64 4756540486875873280), .lit (.float .f64 4771362005757984768), .lit (.float .f64 4786511204640096256), .lit (.float .f64 4801453603149578240), .lit (.float .f64 4816244402031689728), .lit (.float .f64 4831355200913801216), .lit (.float .f64 4846369599423283200), .lit (.float .f64 4861130398305394688), .lit (.float .f64 4876203697187506176), .lit (.float .f64 4891288408196988160), .lit (.float .f64 4906019910204099648), .lit (.float .f64 4921056587992461136), .lit (.float .f64 4936209963552724370), .lit (.float .f64 4950912855330343670), .lit (.float .f64 4965913770331839924), .lit (.float .f64 4981134201117475473), .lit (.float .f64 4995809153217856309), .lit (.float .f64 5010775143622804482), .lit (.float .f64 5026061058026967681), .lit (.float .f64 5040708725286295329), .lit (.float .f64 5055640609639927018), .lit (.float .f64 5070927765361438756)]
def laid_math_pow10postab32 {H : Type} : DataW H := .agg [.lit (.float .f64 4607182418800017408), .lit (.float .f64 5085611494797045271), .lit (.float .f64 5564284217833028085), .lit (.float .f64 6043257259031049059), .lit (.float .f64 6521906365687930162), .lit (.float .f64 7000496887210966211), .lit (.float .f64 7479368607221621995), .lit (.float .f64 7958223736346011545), .lit (.float .f64 8436737289693151036), .lit (.float .f64 8915514139102383430)]
def laid_math_pow10negtab32 {H : Type} : DataW H := .agg [.lit (.float .f64 4607182418800017408), .lit (.float .f64 4128101167230658355), .lit (.float .f64 3649340653511681853), .lit (.float .f64 3170840353250979498), .lit (.float .f64 2691949749288605597), .lit (.float .f64 2213095475689254516), .lit (.float .f64 1734519108376626298), .lit (.float .f64 1255832114822727210), .lit (.float .f64 776877706278891331), .lit (.float .f64 298220099847875929), .lit (.float .f64 2024)]

/-- 'tuck.LawS6436AWhole': WHATEVER THE INPUT: true; the input reads as it did. -/
def lawS6436AWholeSpec : ChangeSpec := { name := "lawS6436AWhole", fn := fun _ => fun
  | [d1, d2, d3, d4] => { results := [.lit (.bool true)], args := [d1, d2, d3, d4] }
  | _ => none }
def lawS6436AWholeRow : OpenClaim := { program := "ybulkecgodoor", sum := "2e72cf0670f8053e46394865c962c9d7368083a63b7af862d57d232a9336ff13", func := "example.com/tuck/tuck.LawS6436AWhole", spec := "lawS6436AWhole", inPlace := ["math.Float64bits", "math.archTrunc", "math.Float64frombits"], unfollowed := true, recurses := true, named := ["math.pow10postab32", "math.pow10tab", "math.pow10negtab32", "encoding/binary.BigEndian", "encoding/binary.LittleEndian"], apart := false, laid := [("math.pow10tab", laid_math_pow10tab), ("math.pow10postab32", laid_math_pow10postab32), ("math.pow10negtab32", laid_math_pow10negtab32)] }
def LawS6436AWholeSaid : Prop := lawS6436AWholeRow.holds Ybad.pinned (OpenSpec.ofChange lawS6436AWholeSpec)

/-- ITS FALSE NEIGHBOUR: 'it returns false'. Refute it at one input. -/
def lawS6436AWholeWrong : ChangeSpec := { name := "lawS6436AWhole", fn := fun _ => fun
  | [d1, d2, d3, d4] => { results := [.lit (.bool false)], args := [d1, d2, d3, d4] }
  | _ => none }
def LawS6436AWholeWrongFalsely : Prop := lawS6436AWholeRow.holds Ybad.pinned (OpenSpec.ofChange lawS6436AWholeWrong)

/-- 'tuck.LawS6436BWhole': WHATEVER THE INPUT: true; the input reads as it did. -/
def lawS6436BWholeSpec : ChangeSpec := { name := "lawS6436BWhole", fn := fun _ => fun
  | [d1, d2, d3, d4] => { results := [.lit (.bool true)], args := [d1, d2, d3, d4] }
  | _ => none }
def lawS6436BWholeRow : OpenClaim := { program := "ybulkecgodoor", sum := "2e72cf0670f8053e46394865c962c9d7368083a63b7af862d57d232a9336ff13", func := "example.com/tuck/tuck.LawS6436BWhole", spec := "lawS6436BWhole", inPlace := ["math.Float64bits", "math.Float64frombits", "math.archTrunc"], unfollowed := true, recurses := true, named := ["math.pow10postab32", "math.pow10tab", "math.pow10negtab32"], apart := false, laid := [("math.pow10tab", laid_math_pow10tab), ("math.pow10postab32", laid_math_pow10postab32), ("math.pow10negtab32", laid_math_pow10negtab32)] }
def LawS6436BWholeSaid : Prop := lawS6436BWholeRow.holds Ybad.pinned (OpenSpec.ofChange lawS6436BWholeSpec)

/-- ITS FALSE NEIGHBOUR: 'it returns false'. Refute it at one input. -/
def lawS6436BWholeWrong : ChangeSpec := { name := "lawS6436BWhole", fn := fun _ => fun
  | [d1, d2, d3, d4] => { results := [.lit (.bool false)], args := [d1, d2, d3, d4] }
  | _ => none }
def LawS6436BWholeWrongFalsely : Prop := lawS6436BWholeRow.holds Ybad.pinned (OpenSpec.ofChange lawS6436BWholeWrong)

end Rows
end Go.Proofs.YbulkecgoDoor
