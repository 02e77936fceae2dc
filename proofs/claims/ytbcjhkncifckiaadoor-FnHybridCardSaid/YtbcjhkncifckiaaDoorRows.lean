/-
  NARROWER THAN 'FOR EVERY INPUT', by the rows' own cells (each row's printed sentence says how): FnAntialias: laid · FnStereo: laid · FnStereoTwice: laid · FnHybrid: laid.
  DERIVED. THE GIVEN ROWS OF THIS SEAT. 4 by the template 'for every input the law returns true; each argument reads behind the call as it read before'; 0 by the template 'total and deterministic' (their statements: YtbcjhkncifckiaaDoorTotals.lean).
  GIVEN WITH THE SEED: the statements are not yours to turn. If you find one false, say at which input.
  Laid BY PROGRAM, IN A SANDBOX (cutbox-rows.mjs): the forced cells as the released guide's own fill.sh prints them over the translation 85b93e270548a069… (all of the seat's roots in one cut). By AI agents, Wed Nov 11 2026. No macro, syntax, notation, axiom, sorry.
-/
import Derived.Test.YtbcjhkncifckiaaDoorChecked
import GoSem.Claim
import GoSem.ClaimJoined
import GoSem.ClaimMapViews
import Derived.JoinedTies
import Derived.KernelRfl
namespace Go.Proofs.YtbcjhkncifckiaaDoor
/- THE CELL 'sum', in the pinned program and in every row, IS THE sha256 OF THE DUMP (.gsa) THAT YtbcjhkncifckiaaDoorProg.lean LOADS. Nothing in Lean hashes anything: it is a label: what it is worth is what the hold of that sum in a sandbox is worth. -/
noncomputable def Tryd.pinned : Pinned := { name := "ytbcjhkncifckiaadoor", sum := "85b93e270548a069d56ecc314abc5c1fc7c741d87cfa80df04029e98eaa67371", checked := Tryd.checked }
namespace Rows
def none {H : Type} : Left H := { results := [], args := [] }

/- WHAT THE LISTED PACKAGE-LEVEL VARIABLES READ AS WHEN THE CALL BEGINS. Each datum BY PROGRAM (the guide's laid-datum.mjs) off the statement by which the dump's own 'gosem.cut.vars' lays the variable. In a bare row this is a premise. The card (YtbcjhkncifckiaaDoorCards.lean) ties it to the program's text. -/
def laid_loop_example_pub_g03435_pub_mp3frame_cs {H : Type} : DataW H := .agg [.lit (.float .f32 1062962345), .lit (.float .f32 1063369176), .lit (.float .f32 1064508131), .lit (.float .f32 1065073288), .lit (.float .f32 1065278021), .lit (.float .f32 1065339140), .lit (.float .f32 1065351522), .lit (.float .f32 1065353099)]
def laid_loop_example_pub_g03435_pub_mp3frame_ca {H : Type} : DataW H := .agg [.lit (.float .f32 3204691459), .lit (.float .f32 3203499739), .lit (.float .f32 3198186227), .lit (.float .f32 3191490407), .lit (.float .f32 3183587331), .lit (.float .f32 3173501943), .lit (.float .f32 3160974060), .lit (.float .f32 3144842163)]
def laid_loop_example_pub_g03435_pub_mp3frame_isRatios {H : Type} : DataW H := .agg [.lit (.float .f32 0), .lit (.float .f32 1049178268), .lit (.float .f32 1058262326), .lit (.float .f32 1065353216), .lit (.float .f32 1071494105), .lit (.float .f32 1081006572)]
def laid_math_sin {H : Type} : DataW H := .agg [.lit (.float .f64 4460209587652500685), .lit (.float .f64 13716528389658582877), .lit (.float .f64 4523617212962785441), .lit (.float .f64 13774824197404483331), .lit (.float .f64 4575957461383575504), .lit (.float .f64 13818544856648471880)]
def laid_math_cos {H : Type} : DataW H := .agg [.lit (.float .f64 13666448263388469915), .lit (.float .f64 4477121864728985349), .lit (.float .f64 13732177093698800582), .lit (.float .f64 4537941361668146421), .lit (.float .f64 13787419979223748497), .lit (.float .f64 4586165620538955083)]
def laid_math_mPi4 {H : Type} : DataW H := .agg [.lit (.int .u64 1), .lit (.int .u64 5040379952546458195), .lit (.int .u64 17892431488136887169), .lit (.int .u64 13169980181085364355), .lit (.int .u64 18204331823439776451), .lit (.int .u64 7946843935494350272), .lit (.int .u64 905889640498799673), .lit (.int .u64 18175356263134875261), .lit (.int .u64 15061281708168349961), .lit (.int .u64 15220161563773041794), .lit (.int .u64 8296664548579374057), .lit (.int .u64 4109744767560208502), .lit (.int .u64 4607516669194743839), .lit (.int .u64 16023283104648321598), .lit (.int .u64 15739233654134936430), .lit (.int .u64 11424645774684705882), .lit (.int .u64 16883842788696515318), .lit (.int .u64 8795094592981902804), .lit (.int .u64 15561835991111744016), .lit (.int .u64 12395701187267450711)]

/-- 'laws.FnAntialias': WHATEVER THE INPUT: true; the input reads as it did. -/
def fnAntialiasSpec : ChangeSpec := { name := "fnAntialias", vars := ["loop.example/pub-g03435/pub/mp3frame.cs", "loop.example/pub-g03435/pub/mp3frame.ca"], fn := fun _ => fun
  | [d1, d2, d3, d4, d5, d6, g1, g2] => { results := [.lit (.bool true)], args := [d1, d2, d3, d4, d5, d6], vars := [g1, g2] }
  | _ => none }
def fnAntialiasRow : OpenClaim := { program := "ytbcjhkncifckiaadoor", sum := "85b93e270548a069d56ecc314abc5c1fc7c741d87cfa80df04029e98eaa67371", func := "loop.example/pub-g03435/laws.FnAntialias", spec := "fnAntialias", inPlace := ["math.sqrt"], unfollowed := true, recurses := true, named := ["loop.example/pub-g03435/pub/mp3frame.cs", "loop.example/pub-g03435/pub/mp3frame.ca"], apart := false, laid := [("loop.example/pub-g03435/pub/mp3frame.cs", laid_loop_example_pub_g03435_pub_mp3frame_cs), ("loop.example/pub-g03435/pub/mp3frame.ca", laid_loop_example_pub_g03435_pub_mp3frame_ca)] }
def FnAntialiasSaid : Prop := fnAntialiasRow.holds Tryd.pinned (OpenSpec.ofChange fnAntialiasSpec)

/-- ITS FALSE NEIGHBOUR: 'it returns false'. Refute it at one input. -/
def fnAntialiasWrong : ChangeSpec := { name := "fnAntialias", vars := ["loop.example/pub-g03435/pub/mp3frame.cs", "loop.example/pub-g03435/pub/mp3frame.ca"], fn := fun _ => fun
  | [d1, d2, d3, d4, d5, d6, g1, g2] => { results := [.lit (.bool false)], args := [d1, d2, d3, d4, d5, d6], vars := [g1, g2] }
  | _ => none }
def FnAntialiasWrongFalsely : Prop := fnAntialiasRow.holds Tryd.pinned (OpenSpec.ofChange fnAntialiasWrong)

/-- 'laws.FnStereo': WHATEVER THE INPUT: true; the input reads as it did. -/
def fnStereoSpec : ChangeSpec := { name := "fnStereo", vars := ["loop.example/pub-g03435/pub/mp3frame.isRatios"], fn := fun _ => fun
  | [d1, d2, d3, d4, d5, g1] => { results := [.lit (.bool true)], args := [d1, d2, d3, d4, d5], vars := [g1] }
  | _ => none }
def fnStereoRow : OpenClaim := { program := "ytbcjhkncifckiaadoor", sum := "85b93e270548a069d56ecc314abc5c1fc7c741d87cfa80df04029e98eaa67371", func := "loop.example/pub-g03435/laws.FnStereo", spec := "fnStereo", unfollowed := true, recurses := true, named := ["loop.example/pub-g03435/pub/mp3frame.isRatios"], apart := false, laid := [("loop.example/pub-g03435/pub/mp3frame.isRatios", laid_loop_example_pub_g03435_pub_mp3frame_isRatios)] }
def FnStereoSaid : Prop := fnStereoRow.holds Tryd.pinned (OpenSpec.ofChange fnStereoSpec)

/-- ITS FALSE NEIGHBOUR: 'it returns false'. Refute it at one input. -/
def fnStereoWrong : ChangeSpec := { name := "fnStereo", vars := ["loop.example/pub-g03435/pub/mp3frame.isRatios"], fn := fun _ => fun
  | [d1, d2, d3, d4, d5, g1] => { results := [.lit (.bool false)], args := [d1, d2, d3, d4, d5], vars := [g1] }
  | _ => none }
def FnStereoWrongFalsely : Prop := fnStereoRow.holds Tryd.pinned (OpenSpec.ofChange fnStereoWrong)

/-- 'laws.FnStereoTwice': WHATEVER THE INPUT: true; the input reads as it did. -/
def fnStereoTwiceSpec : ChangeSpec := { name := "fnStereoTwice", vars := ["loop.example/pub-g03435/pub/mp3frame.isRatios"], fn := fun _ => fun
  | [d1, d2, d3, d4, g1] => { results := [.lit (.bool true)], args := [d1, d2, d3, d4], vars := [g1] }
  | _ => none }
def fnStereoTwiceRow : OpenClaim := { program := "ytbcjhkncifckiaadoor", sum := "85b93e270548a069d56ecc314abc5c1fc7c741d87cfa80df04029e98eaa67371", func := "loop.example/pub-g03435/laws.FnStereoTwice", spec := "fnStereoTwice", unfollowed := true, recurses := true, named := ["loop.example/pub-g03435/pub/mp3frame.isRatios"], apart := false, laid := [("loop.example/pub-g03435/pub/mp3frame.isRatios", laid_loop_example_pub_g03435_pub_mp3frame_isRatios)] }
def FnStereoTwiceSaid : Prop := fnStereoTwiceRow.holds Tryd.pinned (OpenSpec.ofChange fnStereoTwiceSpec)

/-- ITS FALSE NEIGHBOUR: 'it returns false'. Refute it at one input. -/
def fnStereoTwiceWrong : ChangeSpec := { name := "fnStereoTwice", vars := ["loop.example/pub-g03435/pub/mp3frame.isRatios"], fn := fun _ => fun
  | [d1, d2, d3, d4, g1] => { results := [.lit (.bool false)], args := [d1, d2, d3, d4], vars := [g1] }
  | _ => none }
def FnStereoTwiceWrongFalsely : Prop := fnStereoTwiceRow.holds Tryd.pinned (OpenSpec.ofChange fnStereoTwiceWrong)

/-- 'laws.FnHybrid': WHATEVER THE INPUT: true; the input reads as it did. -/
def fnHybridSpec : ChangeSpec := { name := "fnHybrid", fn := fun _ => fun
  | [d1, d2, d3, d4, d5, d6, d7] => { results := [.lit (.bool true)], args := [d1, d2, d3, d4, d5, d6, d7] }
  | _ => none }
def fnHybridRow : OpenClaim := { program := "ytbcjhkncifckiaadoor", sum := "85b93e270548a069d56ecc314abc5c1fc7c741d87cfa80df04029e98eaa67371", func := "loop.example/pub-g03435/laws.FnHybrid", spec := "fnHybrid", inPlace := ["math.Float64bits", "math.Float64frombits", "math/bits.Add64"], unfollowed := true, recurses := true, named := ["math._cos", "math._sin", "math.mPi4"], apart := false, laid := [("math._sin", laid_math_sin), ("math._cos", laid_math_cos), ("math.mPi4", laid_math_mPi4)] }
def FnHybridSaid : Prop := fnHybridRow.holds Tryd.pinned (OpenSpec.ofChange fnHybridSpec)

/-- ITS FALSE NEIGHBOUR: 'it returns false'. Refute it at one input. -/
def fnHybridWrong : ChangeSpec := { name := "fnHybrid", fn := fun _ => fun
  | [d1, d2, d3, d4, d5, d6, d7] => { results := [.lit (.bool false)], args := [d1, d2, d3, d4, d5, d6, d7] }
  | _ => none }
def FnHybridWrongFalsely : Prop := fnHybridRow.holds Tryd.pinned (OpenSpec.ofChange fnHybridWrong)

/- THE SECOND FORM. 'bulk': how many values and letters a reading holds, each counted each time it is reached (what is shared counts as often as it is met; a slice's spare places count too). A statement '..UptoSaid' is the law's where the arguments, and the package variables that the reading takes, are together of bulk at most 1048576: NARROWER than '..Said'. Prove '..Said' where nothing that the law and all that it calls make is longer than what came in: it says more and counts as full. Else prove '..UptoSaid'. A law counts once. -/
mutual
def uptoBulk {H : Type} : DataW H → Nat
  | .lit (.string bytes) => bytes.length + 1
  | .lit _ => 1
  | .nil => 1
  | .ptr d => uptoBulk d + 1
  | .slice elems spare => uptoBulkAll elems + uptoBulkAll spare + 1
  | .agg parts => uptoBulkAll parts + 1
  | .iface _ d => uptoBulk d + 1
  | .map entries => uptoBulkEntries entries + 1
  | .held _ => 1
def uptoBulkAll {H : Type} : List (DataW H) → Nat
  | [] => 0
  | d :: r => uptoBulk d + uptoBulkAll r
def uptoBulkEntries {H : Type} : List (Lit × DataW H) → Nat
  | [] => 0
  | x :: r => uptoBulkEntry x + uptoBulkEntries r
def uptoBulkEntry {H : Type} : Lit × DataW H → Nat
  | (.string bytes, d) => bytes.length + uptoBulk d + 1
  | (_, d) => uptoBulk d + 1
 end
def uptoSmall : (H : Type) → List (DataW H) → Bool := fun _ ds => decide (uptoBulkAll ds ≤ 1048576)
def OpenSpec.upto (s : _root_.Go.ChangeSpec) : _root_.Go.OpenSpec := { _root_.Go.OpenSpec.ofChange s with cond := some uptoSmall }

/-- 'laws.FnAntialias', WHERE WHAT IT READS IS OF BULK AT MOST 1048576: true; the input reads as it did. -/
def fnAntialiasUptoRow : OpenClaim := { program := "ytbcjhkncifckiaadoor", sum := "85b93e270548a069d56ecc314abc5c1fc7c741d87cfa80df04029e98eaa67371", func := "loop.example/pub-g03435/laws.FnAntialias", spec := "fnAntialias", inPlace := ["math.sqrt"], unfollowed := true, recurses := true, named := ["loop.example/pub-g03435/pub/mp3frame.cs", "loop.example/pub-g03435/pub/mp3frame.ca"], apart := false, laid := [("loop.example/pub-g03435/pub/mp3frame.cs", laid_loop_example_pub_g03435_pub_mp3frame_cs), ("loop.example/pub-g03435/pub/mp3frame.ca", laid_loop_example_pub_g03435_pub_mp3frame_ca)], narrowed := true }
def FnAntialiasUptoSaid : Prop := fnAntialiasUptoRow.holds Tryd.pinned (OpenSpec.upto fnAntialiasSpec)

/-- 'laws.FnStereo', WHERE WHAT IT READS IS OF BULK AT MOST 1048576: true; the input reads as it did. -/
def fnStereoUptoRow : OpenClaim := { program := "ytbcjhkncifckiaadoor", sum := "85b93e270548a069d56ecc314abc5c1fc7c741d87cfa80df04029e98eaa67371", func := "loop.example/pub-g03435/laws.FnStereo", spec := "fnStereo", unfollowed := true, recurses := true, named := ["loop.example/pub-g03435/pub/mp3frame.isRatios"], apart := false, laid := [("loop.example/pub-g03435/pub/mp3frame.isRatios", laid_loop_example_pub_g03435_pub_mp3frame_isRatios)], narrowed := true }
def FnStereoUptoSaid : Prop := fnStereoUptoRow.holds Tryd.pinned (OpenSpec.upto fnStereoSpec)

/-- 'laws.FnStereoTwice', WHERE WHAT IT READS IS OF BULK AT MOST 1048576: true; the input reads as it did. -/
def fnStereoTwiceUptoRow : OpenClaim := { program := "ytbcjhkncifckiaadoor", sum := "85b93e270548a069d56ecc314abc5c1fc7c741d87cfa80df04029e98eaa67371", func := "loop.example/pub-g03435/laws.FnStereoTwice", spec := "fnStereoTwice", unfollowed := true, recurses := true, named := ["loop.example/pub-g03435/pub/mp3frame.isRatios"], apart := false, laid := [("loop.example/pub-g03435/pub/mp3frame.isRatios", laid_loop_example_pub_g03435_pub_mp3frame_isRatios)], narrowed := true }
def FnStereoTwiceUptoSaid : Prop := fnStereoTwiceUptoRow.holds Tryd.pinned (OpenSpec.upto fnStereoTwiceSpec)

/-- 'laws.FnHybrid', WHERE WHAT IT READS IS OF BULK AT MOST 1048576: true; the input reads as it did. -/
def fnHybridUptoRow : OpenClaim := { program := "ytbcjhkncifckiaadoor", sum := "85b93e270548a069d56ecc314abc5c1fc7c741d87cfa80df04029e98eaa67371", func := "loop.example/pub-g03435/laws.FnHybrid", spec := "fnHybrid", inPlace := ["math.Float64bits", "math.Float64frombits", "math/bits.Add64"], unfollowed := true, recurses := true, named := ["math._cos", "math._sin", "math.mPi4"], apart := false, laid := [("math._sin", laid_math_sin), ("math._cos", laid_math_cos), ("math.mPi4", laid_math_mPi4)], narrowed := true }
def FnHybridUptoSaid : Prop := fnHybridUptoRow.holds Tryd.pinned (OpenSpec.upto fnHybridSpec)

end Rows
end Go.Proofs.YtbcjhkncifckiaaDoor
