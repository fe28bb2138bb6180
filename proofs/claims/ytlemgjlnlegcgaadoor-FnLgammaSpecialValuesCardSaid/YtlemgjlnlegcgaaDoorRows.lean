/-
  NARROWER THAN 'FOR EVERY INPUT', by the rows' own cells (each row's printed sentence says how): FnLgammaSignOnPositiveReals: laid · FnLgammaSpecialValues: laid.
  DERIVED. THE GIVEN ROWS OF THIS SEAT. 2 by the template 'for every input the law returns true; each argument reads behind the call as it read before'; 0 by the template 'total and deterministic' (their statements: YtlemgjlnlegcgaaDoorTotals.lean).
  GIVEN WITH THE SEED: the statements are not yours to turn. If you find one false, say at which input.
  Laid BY PROGRAM, IN A SANDBOX (cutbox-rows.mjs): the forced cells as the released guide's own fill.sh prints them over the translation 64f9489ddffb7fe7… (all of the seat's roots in one cut). By AI agents, Wed Nov 11 2026. No macro, syntax, notation, axiom, sorry.
-/
import Derived.Test.YtlemgjlnlegcgaaDoorChecked
import GoSem.Claim
import GoSem.ClaimJoined
import GoSem.ClaimMapViews
import Derived.JoinedTies
import Derived.KernelRfl
namespace Go.Proofs.YtlemgjlnlegcgaaDoor
/- THE CELL 'sum', in the pinned program and in every row, IS THE sha256 OF THE DUMP (.gsa) THAT YtlemgjlnlegcgaaDoorProg.lean LOADS. Nothing in Lean hashes anything: it is a label: what it is worth is what the hold of that sum in a sandbox is worth. -/
noncomputable def Tryd.pinned : Pinned := { name := "ytlemgjlnlegcgaadoor", sum := "64f9489ddffb7fe7b3c8d28b15a6ed5b25b7888e80f22f2083e480269135302a", checked := Tryd.checked }
namespace Rows
def none {H : Type} : Left H := { results := [], args := [] }

/- WHAT THE LISTED PACKAGE-LEVEL VARIABLES READ AS WHEN THE CALL BEGINS. Each datum BY PROGRAM (the guide's laid-datum.mjs) off the statement by which the dump's own 'gosem.cut.vars' lays the variable. In a bare row this is a premise. The card (YtlemgjlnlegcgaaDoorCards.lean) ties it to the program's text. -/
def laid_math_lgamA {H : Type} : DataW H := .agg [.lit (.float .f64 4590228395698008264), .lit (.float .f64 4599480669564178349), .lit (.float .f64 4589517665429971623), .lit (.float .f64 4581589235564434555), .lit (.float .f64 4575164982564483048), .lit (.float .f64 4568811493649781355), .lit (.float .f64 4563143216008740701), .lit (.float .f64 4557843786729364480), .lit (.float .f64 4552280422768239949), .lit (.float .f64 4547598271341525767), .lit (.float .f64 4538063219164248658), .lit (.float .f64 4541745596584974391)]
def laid_math_lgamR {H : Type} : DataW H := .agg [.lit (.float .f64 4607182418800017408), .lit (.float .f64 4608947853879192436), .lit (.float .f64 4604677836871294172), .lit (.float .f64 4595362590636105511), .lit (.float .f64 4581031541704938613), .lit (.float .f64 4560314476338981211), .lit (.float .f64 4530263847980990784)]
def laid_math_lgamS {H : Type} : DataW H := .agg [.lit (.float .f64 13813600432552784072), .lit (.float .f64 4596913578117826680), .lit (.float .f64 4599540328982355801), .lit (.float .f64 4594440851763360503), .lit (.float .f64 4583336332999498081), .lit (.float .f64 4566129637262422585), .lit (.float .f64 4539839448431978821)]
def laid_math_lgamT {H : Type} : DataW H := .agg [.lit (.float .f64 4602387636645935266), .lit (.float .f64 13817857465259574537), .lit (.float .f64 4589321138371641755), .lit (.float .f64 13808258184654468883), .lit (.float .f64 4580836915846773228), .lit (.float .f64 13800471404037139562), .lit (.float .f64 4573683464413438788), .lit (.float .f64 13794014384452342999), .lit (.float .f64 4567356815629994261), .lit (.float .f64 13787487198287567601), .lit (.float .f64 4561265769268226281), .lit (.float .f64 13781478925004955884), .lit (.float .f64 4554458007677615095), .lit (.float .f64 13777776956600978488), .lit (.float .f64 4554825044790006772)]
def laid_math_lgamU {H : Type} : DataW H := .agg [.lit (.float .f64 13813600432552784072), .lit (.float .f64 4603875219004743167), .lit (.float .f64 4609231207607680367), .lit (.float .f64 4606981716134495312), .lit (.float .f64 4597417307973683492), .lit (.float .f64 4578867296057666313)]
def laid_math_lgamV {H : Type} : DataW H := .agg [.lit (.float .f64 4607182418800017408), .lit (.float .f64 4612712789461262748), .lit (.float .f64 4611975351653570805), .lit (.float .f64 4605104324179153071), .lit (.float .f64 4592174453748890760), .lit (.float .f64 4569564532599476065)]
def laid_math_lgamW {H : Type} : DataW H := .agg [.lit (.float .f64 4601218545606032745), .lit (.float .f64 4590669220166325563), .lit (.float .f64 13791923578849996380), .lit (.float .f64 4560459357641193654), .lit (.float .f64 13782000896400418625), .lit (.float .f64 4560853097493747153), .lit (.float .f64 13788536193792492516)]
def laid_math_sin {H : Type} : DataW H := .agg [.lit (.float .f64 4460209587652500685), .lit (.float .f64 13716528389658582877), .lit (.float .f64 4523617212962785441), .lit (.float .f64 13774824197404483331), .lit (.float .f64 4575957461383575504), .lit (.float .f64 13818544856648471880)]
def laid_math_cos {H : Type} : DataW H := .agg [.lit (.float .f64 13666448263388469915), .lit (.float .f64 4477121864728985349), .lit (.float .f64 13732177093698800582), .lit (.float .f64 4537941361668146421), .lit (.float .f64 13787419979223748497), .lit (.float .f64 4586165620538955083)]
def laid_math_mPi4 {H : Type} : DataW H := .agg [.lit (.int .u64 1), .lit (.int .u64 5040379952546458195), .lit (.int .u64 17892431488136887169), .lit (.int .u64 13169980181085364355), .lit (.int .u64 18204331823439776451), .lit (.int .u64 7946843935494350272), .lit (.int .u64 905889640498799673), .lit (.int .u64 18175356263134875261), .lit (.int .u64 15061281708168349961), .lit (.int .u64 15220161563773041794), .lit (.int .u64 8296664548579374057), .lit (.int .u64 4109744767560208502), .lit (.int .u64 4607516669194743839), .lit (.int .u64 16023283104648321598), .lit (.int .u64 15739233654134936430), .lit (.int .u64 11424645774684705882), .lit (.int .u64 16883842788696515318), .lit (.int .u64 8795094592981902804), .lit (.int .u64 15561835991111744016), .lit (.int .u64 12395701187267450711)]

/-- 'n001_54.FnLgammaSignOnPositiveReals': WHATEVER THE INPUT: true; the input reads as it did. -/
def fnLgammaSignOnPositiveRealsSpec : ChangeSpec := { name := "fnLgammaSignOnPositiveReals", fn := fun _ => fun
  | [d] => { results := [.lit (.bool true)], args := [d] }
  | _ => none }
def fnLgammaSignOnPositiveRealsRow : OpenClaim := { program := "ytlemgjlnlegcgaadoor", sum := "64f9489ddffb7fe7b3c8d28b15a6ed5b25b7888e80f22f2083e480269135302a", func := "github.com/itchyny/gojq/n001_54.FnLgammaSignOnPositiveReals", spec := "fnLgammaSignOnPositiveReals", inPlace := ["math.Float64bits", "math.Float64frombits", "math.archLog", "math/bits.Add64", "math.archFloor", "math.archTrunc"], named := ["math._lgamA", "math._lgamT", "math._lgamU", "math._lgamV", "math._lgamS", "math._lgamR", "math._lgamW", "math._cos", "math._sin", "math.mPi4"], apart := false, laid := [("math._lgamA", laid_math_lgamA), ("math._lgamR", laid_math_lgamR), ("math._lgamS", laid_math_lgamS), ("math._lgamT", laid_math_lgamT), ("math._lgamU", laid_math_lgamU), ("math._lgamV", laid_math_lgamV), ("math._lgamW", laid_math_lgamW), ("math._sin", laid_math_sin), ("math._cos", laid_math_cos), ("math.mPi4", laid_math_mPi4)] }
def FnLgammaSignOnPositiveRealsSaid : Prop := fnLgammaSignOnPositiveRealsRow.holds Tryd.pinned (OpenSpec.ofChange fnLgammaSignOnPositiveRealsSpec)

/-- ITS FALSE NEIGHBOUR: 'it returns false'. Refute it at one input. -/
def fnLgammaSignOnPositiveRealsWrong : ChangeSpec := { name := "fnLgammaSignOnPositiveReals", fn := fun _ => fun
  | [d] => { results := [.lit (.bool false)], args := [d] }
  | _ => none }
def FnLgammaSignOnPositiveRealsWrongFalsely : Prop := fnLgammaSignOnPositiveRealsRow.holds Tryd.pinned (OpenSpec.ofChange fnLgammaSignOnPositiveRealsWrong)

/-- 'n001_54.FnLgammaSpecialValues': WHATEVER THE INPUT: true; the input reads as it did. -/
def fnLgammaSpecialValuesSpec : ChangeSpec := { name := "fnLgammaSpecialValues", fn := fun _ => fun
  | [d] => { results := [.lit (.bool true)], args := [d] }
  | _ => none }
def fnLgammaSpecialValuesRow : OpenClaim := { program := "ytlemgjlnlegcgaadoor", sum := "64f9489ddffb7fe7b3c8d28b15a6ed5b25b7888e80f22f2083e480269135302a", func := "github.com/itchyny/gojq/n001_54.FnLgammaSpecialValues", spec := "fnLgammaSpecialValues", inPlace := ["math.Float64bits", "math.Float64frombits", "math.archLog", "math/bits.Add64", "math.archFloor", "math.archTrunc"], named := ["math._lgamA", "math._lgamT", "math._lgamU", "math._lgamV", "math._lgamS", "math._lgamR", "math._lgamW", "math._cos", "math._sin", "math.mPi4"], apart := false, laid := [("math._lgamA", laid_math_lgamA), ("math._lgamR", laid_math_lgamR), ("math._lgamS", laid_math_lgamS), ("math._lgamT", laid_math_lgamT), ("math._lgamU", laid_math_lgamU), ("math._lgamV", laid_math_lgamV), ("math._lgamW", laid_math_lgamW), ("math._sin", laid_math_sin), ("math._cos", laid_math_cos), ("math.mPi4", laid_math_mPi4)] }
def FnLgammaSpecialValuesSaid : Prop := fnLgammaSpecialValuesRow.holds Tryd.pinned (OpenSpec.ofChange fnLgammaSpecialValuesSpec)

/-- ITS FALSE NEIGHBOUR: 'it returns false'. Refute it at one input. -/
def fnLgammaSpecialValuesWrong : ChangeSpec := { name := "fnLgammaSpecialValues", fn := fun _ => fun
  | [d] => { results := [.lit (.bool false)], args := [d] }
  | _ => none }
def FnLgammaSpecialValuesWrongFalsely : Prop := fnLgammaSpecialValuesRow.holds Tryd.pinned (OpenSpec.ofChange fnLgammaSpecialValuesWrong)

/- THE SECOND FORM. 'bulk': how many values and letters a reading holds, each counted each time it is reached (what is shared counts as often as it is met; a slice's spare places count too). A statement '..UptoSaid' is the law's where the arguments, and the package variables that the reading takes, are together of bulk at most 1048576: NARROWER than '..Said'. Prove '..Said' where nothing that the law and all that it calls make is longer than what came in: it says more and counts as full. Else prove '..UptoSaid'. A law counts once. -/
mutual
def uptoBulk {H : Type} : DataW H → Nat
  | .lit (.string bytes) => bytes.length + 1
  | .lit _ => 1
  | .nil => 1
  | .ptr d => uptoBulk d + 1
  | .slice elems spare => uptoBulkAll elems + uptoBulkAll spare + 1
  | .agg parts => uptoBulkAll parts + 1
  | .iface _ d => uptoBulk d + 1
  | .map entries => uptoBulkEntries entries + 1
  | .held _ => 1
def uptoBulkAll {H : Type} : List (DataW H) → Nat
  | [] => 0
  | d :: r => uptoBulk d + uptoBulkAll r
def uptoBulkEntries {H : Type} : List (Lit × DataW H) → Nat
  | [] => 0
  | x :: r => uptoBulkEntry x + uptoBulkEntries r
def uptoBulkEntry {H : Type} : Lit × DataW H → Nat
  | (.string bytes, d) => bytes.length + uptoBulk d + 1
  | (_, d) => uptoBulk d + 1
 end
def uptoSmall : (H : Type) → List (DataW H) → Bool := fun _ ds => decide (uptoBulkAll ds ≤ 1048576)
def OpenSpec.upto (s : _root_.Go.ChangeSpec) : _root_.Go.OpenSpec := { _root_.Go.OpenSpec.ofChange s with cond := some uptoSmall }

/-- 'n001_54.FnLgammaSignOnPositiveReals', WHERE WHAT IT READS IS OF BULK AT MOST 1048576: true; the input reads as it did. -/
def fnLgammaSignOnPositiveRealsUptoRow : OpenClaim := { program := "ytlemgjlnlegcgaadoor", sum := "64f9489ddffb7fe7b3c8d28b15a6ed5b25b7888e80f22f2083e480269135302a", func := "github.com/itchyny/gojq/n001_54.FnLgammaSignOnPositiveReals", spec := "fnLgammaSignOnPositiveReals", inPlace := ["math.Float64bits", "math.Float64frombits", "math.archLog", "math/bits.Add64", "math.archFloor", "math.archTrunc"], named := ["math._lgamA", "math._lgamT", "math._lgamU", "math._lgamV", "math._lgamS", "math._lgamR", "math._lgamW", "math._cos", "math._sin", "math.mPi4"], apart := false, laid := [("math._lgamA", laid_math_lgamA), ("math._lgamR", laid_math_lgamR), ("math._lgamS", laid_math_lgamS), ("math._lgamT", laid_math_lgamT), ("math._lgamU", laid_math_lgamU), ("math._lgamV", laid_math_lgamV), ("math._lgamW", laid_math_lgamW), ("math._sin", laid_math_sin), ("math._cos", laid_math_cos), ("math.mPi4", laid_math_mPi4)], narrowed := true }
def FnLgammaSignOnPositiveRealsUptoSaid : Prop := fnLgammaSignOnPositiveRealsUptoRow.holds Tryd.pinned (OpenSpec.upto fnLgammaSignOnPositiveRealsSpec)

/-- 'n001_54.FnLgammaSpecialValues', WHERE WHAT IT READS IS OF BULK AT MOST 1048576: true; the input reads as it did. -/
def fnLgammaSpecialValuesUptoRow : OpenClaim := { program := "ytlemgjlnlegcgaadoor", sum := "64f9489ddffb7fe7b3c8d28b15a6ed5b25b7888e80f22f2083e480269135302a", func := "github.com/itchyny/gojq/n001_54.FnLgammaSpecialValues", spec := "fnLgammaSpecialValues", inPlace := ["math.Float64bits", "math.Float64frombits", "math.archLog", "math/bits.Add64", "math.archFloor", "math.archTrunc"], named := ["math._lgamA", "math._lgamT", "math._lgamU", "math._lgamV", "math._lgamS", "math._lgamR", "math._lgamW", "math._cos", "math._sin", "math.mPi4"], apart := false, laid := [("math._lgamA", laid_math_lgamA), ("math._lgamR", laid_math_lgamR), ("math._lgamS", laid_math_lgamS), ("math._lgamT", laid_math_lgamT), ("math._lgamU", laid_math_lgamU), ("math._lgamV", laid_math_lgamV), ("math._lgamW", laid_math_lgamW), ("math._sin", laid_math_sin), ("math._cos", laid_math_cos), ("math.mPi4", laid_math_mPi4)], narrowed := true }
def FnLgammaSpecialValuesUptoSaid : Prop := fnLgammaSpecialValuesUptoRow.holds Tryd.pinned (OpenSpec.upto fnLgammaSpecialValuesSpec)

end Rows
end Go.Proofs.YtlemgjlnlegcgaaDoor
