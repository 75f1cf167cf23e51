/-
  NARROWER THAN 'FOR EVERY INPUT', by the rows' own cells (each row's printed sentence says how): FnIsNumber: laid · FnIsSymbol: laid · FnIsLower: laid · FnIsGraphic: laid.
  DERIVED. THE GIVEN ROWS OF THIS SEAT. 4 by the template 'for every input the law returns true; each argument reads behind the call as it read before'; 0 by the template 'total and deterministic' (their statements: YtligkeplkillkaaDoorTotals.lean).
  GIVEN WITH THE SEED: the statements are not yours to turn. If you find one false, say at which input.
  Laid BY PROGRAM, IN A SANDBOX (cutbox-rows.mjs): the forced cells as the released guide's own fill.sh prints them over the translation 794e9e5afe11c749… (all of the seat's roots in one cut). By AI agents, Wed Nov 11 2026. No macro, syntax, notation, axiom, sorry.
-/
import Derived.Test.YtligkeplkillkaaDoorChecked
import GoSem.Claim
import GoSem.ClaimJoined
import GoSem.ClaimMapViews
import Derived.JoinedTies
import Derived.KernelRfl
namespace Go.Proofs.YtligkeplkillkaaDoor
/- THE CELL 'sum', in the pinned program and in every row, IS THE sha256 OF THE DUMP (.gsa) THAT YtligkeplkillkaaDoorProg.lean LOADS. Nothing in Lean hashes anything: it is a label: what it is worth is what the hold of that sum in a sandbox is worth. -/
noncomputable def Tryd.pinned : Pinned := { name := "ytligkeplkillkaadoor", sum := "794e9e5afe11c74966aab2fa4986cd880ea73c0defb003b296ff74400be8cc75", checked := Tryd.checked }
namespace Rows
def none {H : Type} : Left H := { results := [], args := [] }

/- WHAT THE LISTED PACKAGE-LEVEL VARIABLES READ AS WHEN THE CALL BEGINS. Each datum BY PROGRAM (the guide's laid-datum.mjs) off the statement by which the dump's own 'gosem.cut.vars' lays the variable. In a bare row this is a premise. The card (YtligkeplkillkaaDoorCards.lean) ties it to the program's text. -/
def laid_unicode_properties {H : Type} : DataW H := .agg [.lit (.int .u8 1), .lit (.int .u8 1), .lit (.int .u8 1), .lit (.int .u8 1), .lit (.int .u8 1), .lit (.int .u8 1), .lit (.int .u8 1), .lit (.int .u8 1), .lit (.int .u8 1), .lit (.int .u8 1), .lit (.int .u8 1), .lit (.int .u8 1), .lit (.int .u8 1), .lit (.int .u8 1), .lit (.int .u8 1), .lit (.int .u8 1), .lit (.int .u8 1), .lit (.int .u8 1), .lit (.int .u8 1), .lit (.int .u8 1), .lit (.int .u8 1), .lit (.int .u8 1), .lit (.int .u8 1), .lit (.int .u8 1), .lit (.int .u8 1), .lit (.int .u8 1), .lit (.int .u8 1), .lit (.int .u8 1), .lit (.int .u8 1), .lit (.int .u8 1), .lit (.int .u8 1), .lit (.int .u8 1), .lit (.int .u8 144), .lit (.int .u8 130), .lit (.int .u8 130), .lit (.int .u8 130), .lit (.int .u8 136), .lit (.int .u8 130), .lit (.int .u8 130), .lit (.int .u8 130), .lit (.int .u8 130), .lit (.int .u8 130), .lit (.int .u8 130), .lit (.int .u8 136), .lit (.int .u8 130), .lit (.int .u8 130), .lit (.int .u8 130), .lit (.int .u8 130), .lit (.int .u8 132), .lit (.int .u8 132), .lit (.int .u8 132), .lit (.int .u8 132), .lit (.int .u8 132), .lit (.int .u8 132), .lit (.int .u8 132), .lit (.int .u8 132), .lit (.int .u8 132), .lit (.int .u8 132), .lit (.int .u8 130), .lit (.int .u8 130), .lit (.int .u8 136), .lit (.int .u8 136), .lit (.int .u8 136), .lit (.int .u8 130), .lit (.int .u8 130), .lit (.int .u8 160), .lit (.int .u8 160), .lit (.int .u8 160), .lit (.int .u8 160), .lit (.int .u8 160), .lit (.int .u8 160), .lit (.int .u8 160), .lit (.int .u8 160), .lit (.int .u8 160), .lit (.int .u8 160), .lit (.int .u8 160), .lit (.int .u8 160), .lit (.int .u8 160), .lit (.int .u8 160), .lit (.int .u8 160), .lit (.int .u8 160), .lit (.int .u8 160), .lit (.int .u8 160), .lit (.int .u8 160), .lit (.int .u8 160), .lit (.int .u8 160), .lit (.int .u8 160), .lit (.int .u8 160), .lit (.int .u8 160), .lit (.int .u8 160), .lit (.int .u8 160), .lit (.int .u8 130), .lit (.int .u8 130), .lit (.int .u8 130), .lit (.int .u8 136), .lit (.int .u8 130), .lit (.int .u8 136), .lit (.int .u8 192), .lit (.int .u8 192), .lit (.int .u8 192), .lit (.int .u8 192), .lit (.int .u8 192), .lit (.int .u8 192), .lit (.int .u8 192), .lit (.int .u8 192), .lit (.int .u8 192), .lit (.int .u8 192), .lit (.int .u8 192), .lit (.int .u8 192), .lit (.int .u8 192), .lit (.int .u8 192), .lit (.int .u8 192), .lit (.int .u8 192), .lit (.int .u8 192), .lit (.int .u8 192), .lit (.int .u8 192), .lit (.int .u8 192), .lit (.int .u8 192), .lit (.int .u8 192), .lit (.int .u8 192), .lit (.int .u8 192), .lit (.int .u8 192), .lit (.int .u8 192), .lit (.int .u8 130), .lit (.int .u8 136), .lit (.int .u8 130), .lit (.int .u8 136), .lit (.int .u8 1), .lit (.int .u8 1), .lit (.int .u8 1), .lit (.int .u8 1), .lit (.int .u8 1), .lit (.int .u8 1), .lit (.int .u8 1), .lit (.int .u8 1), .lit (.int .u8 1), .lit (.int .u8 1), .lit (.int .u8 1), .lit (.int .u8 1), .lit (.int .u8 1), .lit (.int .u8 1), .lit (.int .u8 1), .lit (.int .u8 1), .lit (.int .u8 1), .lit (.int .u8 1), .lit (.int .u8 1), .lit (.int .u8 1), .lit (.int .u8 1), .lit (.int .u8 1), .lit (.int .u8 1), .lit (.int .u8 1), .lit (.int .u8 1), .lit (.int .u8 1), .lit (.int .u8 1), .lit (.int .u8 1), .lit (.int .u8 1), .lit (.int .u8 1), .lit (.int .u8 1), .lit (.int .u8 1), .lit (.int .u8 1), .lit (.int .u8 16), .lit (.int .u8 130), .lit (.int .u8 136), .lit (.int .u8 136), .lit (.int .u8 136), .lit (.int .u8 136), .lit (.int .u8 136), .lit (.int .u8 130), .lit (.int .u8 136), .lit (.int .u8 136), .lit (.int .u8 224), .lit (.int .u8 130), .lit (.int .u8 136), .lit (.int .u8 0), .lit (.int .u8 136), .lit (.int .u8 136), .lit (.int .u8 136), .lit (.int .u8 136), .lit (.int .u8 132), .lit (.int .u8 132), .lit (.int .u8 136), .lit (.int .u8 192), .lit (.int .u8 130), .lit (.int .u8 130), .lit (.int .u8 136), .lit (.int .u8 132), .lit (.int .u8 224), .lit (.int .u8 130), .lit (.int .u8 132), .lit (.int .u8 132), .lit (.int .u8 132), .lit (.int .u8 130), .lit (.int .u8 160), .lit (.int .u8 160), .lit (.int .u8 160), .lit (.int .u8 160), .lit (.int .u8 160), .lit (.int .u8 160), .lit (.int .u8 160), .lit (.int .u8 160), .lit (.int .u8 160), .lit (.int .u8 160), .lit (.int .u8 160), .lit (.int .u8 160), .lit (.int .u8 160), .lit (.int .u8 160), .lit (.int .u8 160), .lit (.int .u8 160), .lit (.int .u8 160), .lit (.int .u8 160), .lit (.int .u8 160), .lit (.int .u8 160), .lit (.int .u8 160), .lit (.int .u8 160), .lit (.int .u8 160), .lit (.int .u8 136), .lit (.int .u8 160), .lit (.int .u8 160), .lit (.int .u8 160), .lit (.int .u8 160), .lit (.int .u8 160), .lit (.int .u8 160), .lit (.int .u8 160), .lit (.int .u8 192), .lit (.int .u8 192), .lit (.int .u8 192), .lit (.int .u8 192), .lit (.int .u8 192), .lit (.int .u8 192), .lit (.int .u8 192), .lit (.int .u8 192), .lit (.int .u8 192), .lit (.int .u8 192), .lit (.int .u8 192), .lit (.int .u8 192), .lit (.int .u8 192), .lit (.int .u8 192), .lit (.int .u8 192), .lit (.int .u8 192), .lit (.int .u8 192), .lit (.int .u8 192), .lit (.int .u8 192), .lit (.int .u8 192), .lit (.int .u8 192), .lit (.int .u8 192), .lit (.int .u8 192), .lit (.int .u8 192), .lit (.int .u8 136), .lit (.int .u8 192), .lit (.int .u8 192), .lit (.int .u8 192), .lit (.int .u8 192), .lit (.int .u8 192), .lit (.int .u8 192), .lit (.int .u8 192), .lit (.int .u8 192)]

/-- 'laws.FnIsNumber': WHATEVER THE INPUT: true; the input reads as it did. -/
def fnIsNumberSpec : ChangeSpec := { name := "fnIsNumber", fn := fun _ => fun
  | [d] => { results := [.lit (.bool true)], args := [d] }
  | _ => none }
def fnIsNumberRow : OpenClaim := { program := "ytligkeplkillkaadoor", sum := "794e9e5afe11c74966aab2fa4986cd880ea73c0defb003b296ff74400be8cc75", func := "loop.example/lib-g03116/laws.FnIsNumber", spec := "fnIsNumber", named := ["unicode.properties", "unicode.Number"], apart := false, laid := [("unicode.properties", laid_unicode_properties)] }
def FnIsNumberSaid : Prop := fnIsNumberRow.holds Tryd.pinned (OpenSpec.ofChange fnIsNumberSpec)

/-- ITS FALSE NEIGHBOUR: 'it returns false'. Refute it at one input. -/
def fnIsNumberWrong : ChangeSpec := { name := "fnIsNumber", fn := fun _ => fun
  | [d] => { results := [.lit (.bool false)], args := [d] }
  | _ => none }
def FnIsNumberWrongFalsely : Prop := fnIsNumberRow.holds Tryd.pinned (OpenSpec.ofChange fnIsNumberWrong)

/-- 'laws.FnIsSymbol': WHATEVER THE INPUT: true; the input reads as it did. -/
def fnIsSymbolSpec : ChangeSpec := { name := "fnIsSymbol", fn := fun _ => fun
  | [d] => { results := [.lit (.bool true)], args := [d] }
  | _ => none }
def fnIsSymbolRow : OpenClaim := { program := "ytligkeplkillkaadoor", sum := "794e9e5afe11c74966aab2fa4986cd880ea73c0defb003b296ff74400be8cc75", func := "loop.example/lib-g03116/laws.FnIsSymbol", spec := "fnIsSymbol", named := ["unicode.properties", "unicode.Symbol"], apart := false, laid := [("unicode.properties", laid_unicode_properties)] }
def FnIsSymbolSaid : Prop := fnIsSymbolRow.holds Tryd.pinned (OpenSpec.ofChange fnIsSymbolSpec)

/-- ITS FALSE NEIGHBOUR: 'it returns false'. Refute it at one input. -/
def fnIsSymbolWrong : ChangeSpec := { name := "fnIsSymbol", fn := fun _ => fun
  | [d] => { results := [.lit (.bool false)], args := [d] }
  | _ => none }
def FnIsSymbolWrongFalsely : Prop := fnIsSymbolRow.holds Tryd.pinned (OpenSpec.ofChange fnIsSymbolWrong)

/-- 'laws.FnIsLower': WHATEVER THE INPUT: true; the input reads as it did. -/
def fnIsLowerSpec : ChangeSpec := { name := "fnIsLower", fn := fun _ => fun
  | [d] => { results := [.lit (.bool true)], args := [d] }
  | _ => none }
def fnIsLowerRow : OpenClaim := { program := "ytligkeplkillkaadoor", sum := "794e9e5afe11c74966aab2fa4986cd880ea73c0defb003b296ff74400be8cc75", func := "loop.example/lib-g03116/laws.FnIsLower", spec := "fnIsLower", named := ["unicode.properties", "unicode.Lower"], apart := false, laid := [("unicode.properties", laid_unicode_properties)] }
def FnIsLowerSaid : Prop := fnIsLowerRow.holds Tryd.pinned (OpenSpec.ofChange fnIsLowerSpec)

/-- ITS FALSE NEIGHBOUR: 'it returns false'. Refute it at one input. -/
def fnIsLowerWrong : ChangeSpec := { name := "fnIsLower", fn := fun _ => fun
  | [d] => { results := [.lit (.bool false)], args := [d] }
  | _ => none }
def FnIsLowerWrongFalsely : Prop := fnIsLowerRow.holds Tryd.pinned (OpenSpec.ofChange fnIsLowerWrong)

/-- 'laws.FnIsGraphic': WHATEVER THE INPUT: true; the input reads as it did. -/
def fnIsGraphicSpec : ChangeSpec := { name := "fnIsGraphic", fn := fun _ => fun
  | [d] => { results := [.lit (.bool true)], args := [d] }
  | _ => none }
def fnIsGraphicRow : OpenClaim := { program := "ytligkeplkillkaadoor", sum := "794e9e5afe11c74966aab2fa4986cd880ea73c0defb003b296ff74400be8cc75", func := "loop.example/lib-g03116/laws.FnIsGraphic", spec := "fnIsGraphic", named := ["unicode.properties", "unicode.GraphicRanges"], apart := false, laid := [("unicode.properties", laid_unicode_properties)] }
def FnIsGraphicSaid : Prop := fnIsGraphicRow.holds Tryd.pinned (OpenSpec.ofChange fnIsGraphicSpec)

/-- ITS FALSE NEIGHBOUR: 'it returns false'. Refute it at one input. -/
def fnIsGraphicWrong : ChangeSpec := { name := "fnIsGraphic", fn := fun _ => fun
  | [d] => { results := [.lit (.bool false)], args := [d] }
  | _ => none }
def FnIsGraphicWrongFalsely : Prop := fnIsGraphicRow.holds Tryd.pinned (OpenSpec.ofChange fnIsGraphicWrong)

/- THE SECOND FORM. 'bulk': how many values and letters a reading holds, each counted each time it is reached (what is shared counts as often as it is met; a slice's spare places count too). A statement '..UptoSaid' is the law's where the arguments, and the package variables that the reading takes, are together of bulk at most 1048576: NARROWER than '..Said'. Prove '..Said' where nothing that the law and all that it calls make is longer than what came in: it says more and counts as full. Else prove '..UptoSaid'. A law counts once. -/
mutual
def uptoBulk {H : Type} : DataW H → Nat
  | .lit (.string bytes) => bytes.length + 1
  | .lit _ => 1
  | .nil => 1
  | .ptr d => uptoBulk d + 1
  | .slice elems spare => uptoBulkAll elems + uptoBulkAll spare + 1
  | .agg parts => uptoBulkAll parts + 1
  | .iface _ d => uptoBulk d + 1
  | .map entries => uptoBulkEntries entries + 1
  | .held _ => 1
def uptoBulkAll {H : Type} : List (DataW H) → Nat
  | [] => 0
  | d :: r => uptoBulk d + uptoBulkAll r
def uptoBulkEntries {H : Type} : List (Lit × DataW H) → Nat
  | [] => 0
  | x :: r => uptoBulkEntry x + uptoBulkEntries r
def uptoBulkEntry {H : Type} : Lit × DataW H → Nat
  | (.string bytes, d) => bytes.length + uptoBulk d + 1
  | (_, d) => uptoBulk d + 1
 end
def uptoSmall : (H : Type) → List (DataW H) → Bool := fun _ ds => decide (uptoBulkAll ds ≤ 1048576)
def OpenSpec.upto (s : _root_.Go.ChangeSpec) : _root_.Go.OpenSpec := { _root_.Go.OpenSpec.ofChange s with cond := some uptoSmall }

/-- 'laws.FnIsNumber', WHERE WHAT IT READS IS OF BULK AT MOST 1048576: true; the input reads as it did. -/
def fnIsNumberUptoRow : OpenClaim := { program := "ytligkeplkillkaadoor", sum := "794e9e5afe11c74966aab2fa4986cd880ea73c0defb003b296ff74400be8cc75", func := "loop.example/lib-g03116/laws.FnIsNumber", spec := "fnIsNumber", named := ["unicode.properties", "unicode.Number"], apart := false, laid := [("unicode.properties", laid_unicode_properties)], narrowed := true }
def FnIsNumberUptoSaid : Prop := fnIsNumberUptoRow.holds Tryd.pinned (OpenSpec.upto fnIsNumberSpec)

/-- 'laws.FnIsSymbol', WHERE WHAT IT READS IS OF BULK AT MOST 1048576: true; the input reads as it did. -/
def fnIsSymbolUptoRow : OpenClaim := { program := "ytligkeplkillkaadoor", sum := "794e9e5afe11c74966aab2fa4986cd880ea73c0defb003b296ff74400be8cc75", func := "loop.example/lib-g03116/laws.FnIsSymbol", spec := "fnIsSymbol", named := ["unicode.properties", "unicode.Symbol"], apart := false, laid := [("unicode.properties", laid_unicode_properties)], narrowed := true }
def FnIsSymbolUptoSaid : Prop := fnIsSymbolUptoRow.holds Tryd.pinned (OpenSpec.upto fnIsSymbolSpec)

/-- 'laws.FnIsLower', WHERE WHAT IT READS IS OF BULK AT MOST 1048576: true; the input reads as it did. -/
def fnIsLowerUptoRow : OpenClaim := { program := "ytligkeplkillkaadoor", sum := "794e9e5afe11c74966aab2fa4986cd880ea73c0defb003b296ff74400be8cc75", func := "loop.example/lib-g03116/laws.FnIsLower", spec := "fnIsLower", named := ["unicode.properties", "unicode.Lower"], apart := false, laid := [("unicode.properties", laid_unicode_properties)], narrowed := true }
def FnIsLowerUptoSaid : Prop := fnIsLowerUptoRow.holds Tryd.pinned (OpenSpec.upto fnIsLowerSpec)

/-- 'laws.FnIsGraphic', WHERE WHAT IT READS IS OF BULK AT MOST 1048576: true; the input reads as it did. -/
def fnIsGraphicUptoRow : OpenClaim := { program := "ytligkeplkillkaadoor", sum := "794e9e5afe11c74966aab2fa4986cd880ea73c0defb003b296ff74400be8cc75", func := "loop.example/lib-g03116/laws.FnIsGraphic", spec := "fnIsGraphic", named := ["unicode.properties", "unicode.GraphicRanges"], apart := false, laid := [("unicode.properties", laid_unicode_properties)], narrowed := true }
def FnIsGraphicUptoSaid : Prop := fnIsGraphicUptoRow.holds Tryd.pinned (OpenSpec.upto fnIsGraphicSpec)

end Rows
end Go.Proofs.YtligkeplkillkaaDoor
