/-
  NARROWER THAN 'FOR EVERY INPUT', by the rows' own cells (each row's printed sentence says how): FnTinyAgain: laid · FnTinyBack: loops, laid.
  DERIVED. THE GIVEN ROWS OF THIS SEAT. 2 by the template 'for every input the law returns true; each argument reads behind the call as it read before'; 0 by the template 'total and deterministic' (their statements: YtnjjgbcmjnfijaaGreatDoorTotals.lean).
  GIVEN WITH THE SEED: the statements are not yours to turn. If you find one false, say at which input.
  Laid BY PROGRAM, IN A SANDBOX (cutbox-rows.mjs): the forced cells as the released guide's own fill.sh prints them over the translation 3a2ded3708494837… (all of the seat's roots in one cut). By AI agents, Wed Nov 11 2026. No macro, syntax, notation, axiom, sorry.
-/
import Derived.Test.YtnjjgbcmjnfijaaGreatDoorChecked
import GoSem.Claim
import GoSem.ClaimJoined
import GoSem.ClaimMapViews
import Derived.JoinedTies
import Derived.KernelRfl
namespace Go.Proofs.YtnjjgbcmjnfijaaGreatDoor
/- THE CELL 'sum', in the pinned program and in every row, IS THE sha256 OF THE DUMP (.gsa) THAT YtnjjgbcmjnfijaaGreatDoorProg.lean LOADS. Nothing in Lean hashes anything: it is a label: what it is worth is what the hold of that sum in a sandbox is worth. -/
noncomputable def Tryz.pinned : Pinned := { name := "ytnjjgbcmjnfijaagreatdoor", sum := "3a2ded3708494837fac964bc5572702e72cbb146d439a58aa9c8c8024c77c46e", checked := Tryz.checked }
namespace Rows
def none {H : Type} : Left H := { results := [], args := [] }

/- WHAT THE LISTED PACKAGE-LEVEL VARIABLES READ AS WHEN THE CALL BEGINS. Each datum BY PROGRAM (the guide's laid-datum.mjs) off the statement by which the dump's own 'gosem.cut.vars' lays the variable. In a bare row this is a premise. The card (YtnjjgbcmjnfijaaGreatDoorCards.lean) ties it to the program's text. -/
def laid_math_pow10tab {H : Type} : DataW H := .agg [.lit (.float .f64 4607182418800017408), .lit (.float .f64 4621819117588971520), .lit (.float .f64 4636737291354636288), .lit (.float .f64 4652007308841189376), .lit (.float .f64 4666723172467343360), .lit (.float .f64 4681608360884174848), .lit (.float .f64 4696837146684686336), .lit (.float .f64 4711630319722168320), .lit (.float .f64 4726483295884279808), .lit (.float .f64 4741671816366391296), .lit (.float .f64 4756540486875873280), .lit (.float .f64 4771362005757984768), .lit (.float .f64 4786511204640096256), .lit (.float .f64 4801453603149578240), .lit (.float .f64 4816244402031689728), .lit (.float .f64 4831355200913801216), .lit (.float .f64 4846369599423283200), .lit (.float .f64 4861130398305394688), .lit (.float .f64 4876203697187506176), .lit (.float .f64 4891288408196988160), .lit (.float .f64 4906019910204099648), .lit (.float .f64 4921056587992461136), .lit (.float .f64 4936209963552724370), .lit (.float .f64 4950912855330343670), .lit (.float .f64 4965913770331839924), .lit (.float .f64 4981134201117475473), .lit (.float .f64 4995809153217856309), .lit (.float .f64 5010775143622804482), .lit (.float .f64 5026061058026967681), .lit (.float .f64 5040708725286295329), .lit (.float .f64 5055640609639927018), .lit (.float .f64 5070927765361438756)]
def laid_math_pow10postab32 {H : Type} : DataW H := .agg [.lit (.float .f64 4607182418800017408), .lit (.float .f64 5085611494797045271), .lit (.float .f64 5564284217833028085), .lit (.float .f64 6043257259031049059), .lit (.float .f64 6521906365687930162), .lit (.float .f64 7000496887210966211), .lit (.float .f64 7479368607221621995), .lit (.float .f64 7958223736346011545), .lit (.float .f64 8436737289693151036), .lit (.float .f64 8915514139102383430)]
def laid_math_pow10negtab32 {H : Type} : DataW H := .agg [.lit (.float .f64 4607182418800017408), .lit (.float .f64 4128101167230658355), .lit (.float .f64 3649340653511681853), .lit (.float .f64 3170840353250979498), .lit (.float .f64 2691949749288605597), .lit (.float .f64 2213095475689254516), .lit (.float .f64 1734519108376626298), .lit (.float .f64 1255832114822727210), .lit (.float .f64 776877706278891331), .lit (.float .f64 298220099847875929), .lit (.float .f64 2024)]
def laid_pub_alidade_pub_simplefeatures_rtree_Stop {H : Type} : DataW H := .iface "*errors.errorString" (.ptr (.agg [.lit (.string [115, 116, 111, 112])]))

/-- 'laws.FnTinyAgain': WHATEVER THE INPUT: true; the input reads as it did. -/
def fnTinyAgainSpec : ChangeSpec := { name := "fnTinyAgain", fn := fun _ => fun
  | [d] => { results := [.lit (.bool true)], args := [d] }
  | _ => none }
def fnTinyAgainRow : OpenClaim := { program := "ytnjjgbcmjnfijaagreatdoor", sum := "3a2ded3708494837fac964bc5572702e72cbb146d439a58aa9c8c8024c77c46e", func := "pub-alidade/laws.FnTinyAgain", spec := "fnTinyAgain", inPlace := ["math.Float64frombits", "math.Float64bits", "internal/reflectlite.TypeOf", "internal/reflectlite.ValueOf", "internal/reflectlite.Swapper", "(internal/reflectlite.Value).Len"], unfollowed := true, recurses := true, named := ["math.pow10postab32", "math.pow10tab", "math.pow10negtab32", "pub-alidade/pub/simplefeatures/rtree.Stop"], plainKeys := false, apart := false, laid := [("math.pow10tab", laid_math_pow10tab), ("math.pow10postab32", laid_math_pow10postab32), ("math.pow10negtab32", laid_math_pow10negtab32), ("pub-alidade/pub/simplefeatures/rtree.Stop", laid_pub_alidade_pub_simplefeatures_rtree_Stop)] }
def FnTinyAgainSaid : Prop := fnTinyAgainRow.holds Tryz.pinned (OpenSpec.ofChange fnTinyAgainSpec)

/-- ITS FALSE NEIGHBOUR: 'it returns false'. Refute it at one input. -/
def fnTinyAgainWrong : ChangeSpec := { name := "fnTinyAgain", fn := fun _ => fun
  | [d] => { results := [.lit (.bool false)], args := [d] }
  | _ => none }
def FnTinyAgainWrongFalsely : Prop := fnTinyAgainRow.holds Tryz.pinned (OpenSpec.ofChange fnTinyAgainWrong)

/-- 'laws.FnTinyBack': WHATEVER THE INPUT: true; the input reads as it did. -/
def fnTinyBackSpec : ChangeSpec := { name := "fnTinyBack", fn := fun _ => fun
  | [d1, d2] => { results := [.lit (.bool true)], args := [d1, d2] }
  | _ => none }
def fnTinyBackRow : OpenClaim := { program := "ytnjjgbcmjnfijaagreatdoor", sum := "3a2ded3708494837fac964bc5572702e72cbb146d439a58aa9c8c8024c77c46e", func := "pub-alidade/laws.FnTinyBack", spec := "fnTinyBack", inPlace := ["math.archTrunc", "math.Float64bits", "math.Float64frombits", "internal/reflectlite.TypeOf", "internal/reflectlite.ValueOf", "internal/reflectlite.Swapper", "(internal/reflectlite.Value).Len"], unfollowed := true, recurses := true, named := ["math.pow10postab32", "math.pow10tab", "math.pow10negtab32", "pub-alidade/pub/simplefeatures/rtree.Stop"], loops := true, plainKeys := false, apart := false, laid := [("math.pow10tab", laid_math_pow10tab), ("math.pow10postab32", laid_math_pow10postab32), ("math.pow10negtab32", laid_math_pow10negtab32), ("pub-alidade/pub/simplefeatures/rtree.Stop", laid_pub_alidade_pub_simplefeatures_rtree_Stop)] }
def FnTinyBackSaid : Prop := fnTinyBackRow.holds Tryz.pinned (OpenSpec.ofChange fnTinyBackSpec)

/-- ITS FALSE NEIGHBOUR: 'it returns false'. Refute it at one input. -/
def fnTinyBackWrong : ChangeSpec := { name := "fnTinyBack", fn := fun _ => fun
  | [d1, d2] => { results := [.lit (.bool false)], args := [d1, d2] }
  | _ => none }
def FnTinyBackWrongFalsely : Prop := fnTinyBackRow.holds Tryz.pinned (OpenSpec.ofChange fnTinyBackWrong)

/- THE SECOND FORM. 'bulk': how many values and letters a reading holds, each counted each time it is reached (what is shared counts as often as it is met; a slice's spare places count too). A statement '..UptoSaid' is the law's where the arguments, and the package variables that the reading takes, are together of bulk at most 1048576: NARROWER than '..Said'. Prove '..Said' where nothing that the law and all that it calls make is longer than what came in: it says more and counts as full. Else prove '..UptoSaid'. A law counts once. -/
mutual
def uptoBulk {H : Type} : DataW H → Nat
  | .lit (.string bytes) => bytes.length + 1
  | .lit _ => 1
  | .nil => 1
  | .ptr d => uptoBulk d + 1
  | .slice elems spare => uptoBulkAll elems + uptoBulkAll spare + 1
  | .agg parts => uptoBulkAll parts + 1
  | .iface _ d => uptoBulk d + 1
  | .map entries => uptoBulkEntries entries + 1
  | .held _ => 1
def uptoBulkAll {H : Type} : List (DataW H) → Nat
  | [] => 0
  | d :: r => uptoBulk d + uptoBulkAll r
def uptoBulkEntries {H : Type} : List (Lit × DataW H) → Nat
  | [] => 0
  | x :: r => uptoBulkEntry x + uptoBulkEntries r
def uptoBulkEntry {H : Type} : Lit × DataW H → Nat
  | (.string bytes, d) => bytes.length + uptoBulk d + 1
  | (_, d) => uptoBulk d + 1
 end
def uptoSmall : (H : Type) → List (DataW H) → Bool := fun _ ds => decide (uptoBulkAll ds ≤ 1048576)
def OpenSpec.upto (s : _root_.Go.ChangeSpec) : _root_.Go.OpenSpec := { _root_.Go.OpenSpec.ofChange s with cond := some uptoSmall }

/-- 'laws.FnTinyAgain', WHERE WHAT IT READS IS OF BULK AT MOST 1048576: true; the input reads as it did. -/
def fnTinyAgainUptoRow : OpenClaim := { program := "ytnjjgbcmjnfijaagreatdoor", sum := "3a2ded3708494837fac964bc5572702e72cbb146d439a58aa9c8c8024c77c46e", func := "pub-alidade/laws.FnTinyAgain", spec := "fnTinyAgain", inPlace := ["math.Float64frombits", "math.Float64bits", "internal/reflectlite.TypeOf", "internal/reflectlite.ValueOf", "internal/reflectlite.Swapper", "(internal/reflectlite.Value).Len"], unfollowed := true, recurses := true, named := ["math.pow10postab32", "math.pow10tab", "math.pow10negtab32", "pub-alidade/pub/simplefeatures/rtree.Stop"], plainKeys := false, apart := false, laid := [("math.pow10tab", laid_math_pow10tab), ("math.pow10postab32", laid_math_pow10postab32), ("math.pow10negtab32", laid_math_pow10negtab32), ("pub-alidade/pub/simplefeatures/rtree.Stop", laid_pub_alidade_pub_simplefeatures_rtree_Stop)], narrowed := true }
def FnTinyAgainUptoSaid : Prop := fnTinyAgainUptoRow.holds Tryz.pinned (OpenSpec.upto fnTinyAgainSpec)

/-- 'laws.FnTinyBack', WHERE WHAT IT READS IS OF BULK AT MOST 1048576: true; the input reads as it did. -/
def fnTinyBackUptoRow : OpenClaim := { program := "ytnjjgbcmjnfijaagreatdoor", sum := "3a2ded3708494837fac964bc5572702e72cbb146d439a58aa9c8c8024c77c46e", func := "pub-alidade/laws.FnTinyBack", spec := "fnTinyBack", inPlace := ["math.archTrunc", "math.Float64bits", "math.Float64frombits", "internal/reflectlite.TypeOf", "internal/reflectlite.ValueOf", "internal/reflectlite.Swapper", "(internal/reflectlite.Value).Len"], unfollowed := true, recurses := true, named := ["math.pow10postab32", "math.pow10tab", "math.pow10negtab32", "pub-alidade/pub/simplefeatures/rtree.Stop"], loops := true, plainKeys := false, apart := false, laid := [("math.pow10tab", laid_math_pow10tab), ("math.pow10postab32", laid_math_pow10postab32), ("math.pow10negtab32", laid_math_pow10negtab32), ("pub-alidade/pub/simplefeatures/rtree.Stop", laid_pub_alidade_pub_simplefeatures_rtree_Stop)], narrowed := true }
def FnTinyBackUptoSaid : Prop := fnTinyBackUptoRow.holds Tryz.pinned (OpenSpec.upto fnTinyBackSpec)

end Rows
end Go.Proofs.YtnjjgbcmjnfijaaGreatDoor
