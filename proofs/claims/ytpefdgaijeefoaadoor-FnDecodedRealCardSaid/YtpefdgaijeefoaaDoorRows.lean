/-
  NARROWER THAN 'FOR EVERY INPUT', by the rows' own cells (each row's printed sentence says how): FnDecodedReal: laid.
  DERIVED. THE GIVEN ROWS OF THIS SEAT. 1 by the template 'for every input the law returns true; each argument reads behind the call as it read before'; 0 by the template 'total and deterministic' (their statements: YtpefdgaijeefoaaDoorTotals.lean).
  GIVEN WITH THE SEED: the statements are not yours to turn. If you find one false, say at which input.
  Laid BY PROGRAM, IN A SANDBOX (cutbox-rows.mjs): the forced cells as the released guide's own fill.sh prints them over the translation c0ed95846dccb78b… (all of the seat's roots in one cut). By AI agents, Wed Nov 11 2026. No macro, syntax, notation, axiom, sorry.
-/
import Derived.Test.YtpefdgaijeefoaaDoorChecked
import GoSem.PinnedTables
import GoSem.Claim
import GoSem.ClaimJoined
import GoSem.ClaimMapViews
import Derived.JoinedTies
import Derived.KernelRfl
namespace Go.Proofs.YtpefdgaijeefoaaDoor
/- THE CELL 'sum', in the pinned program and in every row, IS THE sha256 OF THE DUMP (.gsa) THAT YtpefdgaijeefoaaDoorProg.lean LOADS. Nothing in Lean hashes anything: it is a label: what it is worth is what the hold of that sum in a sandbox is worth. -/
noncomputable def Tryd.pinned : Pinned := { name := "ytpefdgaijeefoaadoor", sum := "c0ed95846dccb78bdb1bec2d5b4f80c9f97b1d7260c7631685fcec6d4b082098", checked := Tryd.checked }
namespace Rows
def none {H : Type} : Left H := { results := [], args := [] }

/- WHAT THE LISTED PACKAGE-LEVEL VARIABLES READ AS WHEN THE CALL BEGINS. Each datum BY PROGRAM (the guide's laid-datum.mjs) off the statement by which the dump's own 'gosem.cut.vars' lays the variable. In a bare row this is a premise. The card (YtpefdgaijeefoaaDoorCards.lean) ties it to the program's text. -/
def laid_internal_strconv_float64info {H : Type} : DataW H := .agg [.lit (.int .u64 52), .lit (.int .u64 11), .lit (.int .i64 (-1023))]
def laid_internal_strconv_optimize {H : Type} : DataW H := .lit (.bool true)
def laid_internal_strconv_float64pow10 {H : Type} : DataW H := .slice [.lit (.float .f64 4607182418800017408), .lit (.float .f64 4621819117588971520), .lit (.float .f64 4636737291354636288), .lit (.float .f64 4652007308841189376), .lit (.float .f64 4666723172467343360), .lit (.float .f64 4681608360884174848), .lit (.float .f64 4696837146684686336), .lit (.float .f64 4711630319722168320), .lit (.float .f64 4726483295884279808), .lit (.float .f64 4741671816366391296), .lit (.float .f64 4756540486875873280), .lit (.float .f64 4771362005757984768), .lit (.float .f64 4786511204640096256), .lit (.float .f64 4801453603149578240), .lit (.float .f64 4816244402031689728), .lit (.float .f64 4831355200913801216), .lit (.float .f64 4846369599423283200), .lit (.float .f64 4861130398305394688), .lit (.float .f64 4876203697187506176), .lit (.float .f64 4891288408196988160), .lit (.float .f64 4906019910204099648), .lit (.float .f64 4921056587992461136), .lit (.float .f64 4936209963552724370)] []
def laid_internal_strconv_uint64pow10 {H : Type} : DataW H := .agg [.lit (.int .u64 1), .lit (.int .u64 10), .lit (.int .u64 100), .lit (.int .u64 1000), .lit (.int .u64 10000), .lit (.int .u64 100000), .lit (.int .u64 1000000), .lit (.int .u64 10000000), .lit (.int .u64 100000000), .lit (.int .u64 1000000000), .lit (.int .u64 10000000000), .lit (.int .u64 100000000000), .lit (.int .u64 1000000000000), .lit (.int .u64 10000000000000), .lit (.int .u64 100000000000000), .lit (.int .u64 1000000000000000), .lit (.int .u64 10000000000000000), .lit (.int .u64 100000000000000000), .lit (.int .u64 1000000000000000000), .lit (.int .u64 10000000000000000000)]
/-- One of Go's own tables, pinned by name: the form's constant. -/
def laid_internal_strconv_pow10Tab : DataW Unit := Go.Pinned.pow10Tab

/-- 'laws.FnDecodedReal': WHATEVER THE INPUT: true; the input reads as it did. -/
def fnDecodedRealSpec : ChangeSpec := { name := "fnDecodedReal", fn := fun _ => fun
  | [d] => { results := [.lit (.bool true)], args := [d] }
  | _ => none }
def fnDecodedRealRow : OpenClaim := { program := "ytpefdgaijeefoaadoor", sum := "c0ed95846dccb78bdb1bec2d5b4f80c9f97b1d7260c7631685fcec6d4b082098", func := "given.example/pub-engrossment/laws.FnDecodedReal", spec := "fnDecodedReal", inPlace := ["math.Float64bits", "math.Float64frombits", "gosem.stop:internal/strconv.ftoa32", "internal/strconv.float32bits", "internal/strconv.float64bits", "gosem.stop:internal/strconv.fmtB", "gosem.stop:internal/strconv.fmtX", "gosem.stop:internal/strconv.fixedWidthFloat", "gosem.stop:(*internal/strconv.decimal).Assign", "gosem.stop:(*internal/strconv.decimal).Shift", "gosem.stop:(*internal/strconv.decimal).Round", "gosem.stop:given.example/pub-engrossment/pub/pq.parseBytea", "gosem.stop:given.example/pub-engrossment/pub/pq.parseTS", "gosem.stop:given.example/pub-engrossment/pub/pq.parseTime", "gosem.stop:strconv.ParseInt", "gosem.stop:internal/strconv.atof32", "gosem.stop:internal/strconv.inf", "gosem.stop:internal/strconv.nan", "gosem.stop:internal/strconv.underscoreOK", "gosem.stop:internal/strconv.atofHex", "internal/strconv.float64frombits", "gosem.stop:(*internal/strconv.decimal).set", "gosem.stop:(*internal/strconv.decimal).floatBits", "gosem.stop:strconv.toError", "gosem.stop:given.example/pub-engrossment/pub/pq.stampOf"], unfollowed := true, recurses := true, named := ["internal/strconv.optimize", "internal/strconv.pow10Tab", "internal/strconv.uint64pow10", "internal/strconv.float64info", "internal/strconv.float64pow10"], apart := false, laid := [("internal/strconv.float64info", laid_internal_strconv_float64info), ("internal/strconv.optimize", laid_internal_strconv_optimize), ("internal/strconv.float64pow10", laid_internal_strconv_float64pow10), ("internal/strconv.uint64pow10", laid_internal_strconv_uint64pow10), ("internal/strconv.pow10Tab", laid_internal_strconv_pow10Tab)] }
def FnDecodedRealSaid : Prop := fnDecodedRealRow.holds Tryd.pinned (OpenSpec.ofChange fnDecodedRealSpec)

/-- ITS FALSE NEIGHBOUR: 'it returns false'. Refute it at one input. -/
def fnDecodedRealWrong : ChangeSpec := { name := "fnDecodedReal", fn := fun _ => fun
  | [d] => { results := [.lit (.bool false)], args := [d] }
  | _ => none }
def FnDecodedRealWrongFalsely : Prop := fnDecodedRealRow.holds Tryd.pinned (OpenSpec.ofChange fnDecodedRealWrong)

/- THE SECOND FORM. 'bulk': how many values and letters a reading holds, each counted each time it is reached (what is shared counts as often as it is met; a slice's spare places count too). A statement '..UptoSaid' is the law's where the arguments, and the package variables that the reading takes, are together of bulk at most 1048576: NARROWER than '..Said'. Prove '..Said' where nothing that the law and all that it calls make is longer than what came in: it says more and counts as full. Else prove '..UptoSaid'. A law counts once. -/
mutual
def uptoBulk {H : Type} : DataW H → Nat
  | .lit (.string bytes) => bytes.length + 1
  | .lit _ => 1
  | .nil => 1
  | .ptr d => uptoBulk d + 1
  | .slice elems spare => uptoBulkAll elems + uptoBulkAll spare + 1
  | .agg parts => uptoBulkAll parts + 1
  | .iface _ d => uptoBulk d + 1
  | .map entries => uptoBulkEntries entries + 1
  | .held _ => 1
def uptoBulkAll {H : Type} : List (DataW H) → Nat
  | [] => 0
  | d :: r => uptoBulk d + uptoBulkAll r
def uptoBulkEntries {H : Type} : List (Lit × DataW H) → Nat
  | [] => 0
  | x :: r => uptoBulkEntry x + uptoBulkEntries r
def uptoBulkEntry {H : Type} : Lit × DataW H → Nat
  | (.string bytes, d) => bytes.length + uptoBulk d + 1
  | (_, d) => uptoBulk d + 1
 end
def uptoSmall : (H : Type) → List (DataW H) → Bool := fun _ ds => decide (uptoBulkAll ds ≤ 1048576)
def OpenSpec.upto (s : _root_.Go.ChangeSpec) : _root_.Go.OpenSpec := { _root_.Go.OpenSpec.ofChange s with cond := some uptoSmall }

/-- 'laws.FnDecodedReal', WHERE WHAT IT READS IS OF BULK AT MOST 1048576: true; the input reads as it did. -/
def fnDecodedRealUptoRow : OpenClaim := { program := "ytpefdgaijeefoaadoor", sum := "c0ed95846dccb78bdb1bec2d5b4f80c9f97b1d7260c7631685fcec6d4b082098", func := "given.example/pub-engrossment/laws.FnDecodedReal", spec := "fnDecodedReal", inPlace := ["math.Float64bits", "math.Float64frombits", "gosem.stop:internal/strconv.ftoa32", "internal/strconv.float32bits", "internal/strconv.float64bits", "gosem.stop:internal/strconv.fmtB", "gosem.stop:internal/strconv.fmtX", "gosem.stop:internal/strconv.fixedWidthFloat", "gosem.stop:(*internal/strconv.decimal).Assign", "gosem.stop:(*internal/strconv.decimal).Shift", "gosem.stop:(*internal/strconv.decimal).Round", "gosem.stop:given.example/pub-engrossment/pub/pq.parseBytea", "gosem.stop:given.example/pub-engrossment/pub/pq.parseTS", "gosem.stop:given.example/pub-engrossment/pub/pq.parseTime", "gosem.stop:strconv.ParseInt", "gosem.stop:internal/strconv.atof32", "gosem.stop:internal/strconv.inf", "gosem.stop:internal/strconv.nan", "gosem.stop:internal/strconv.underscoreOK", "gosem.stop:internal/strconv.atofHex", "internal/strconv.float64frombits", "gosem.stop:(*internal/strconv.decimal).set", "gosem.stop:(*internal/strconv.decimal).floatBits", "gosem.stop:strconv.toError", "gosem.stop:given.example/pub-engrossment/pub/pq.stampOf"], unfollowed := true, recurses := true, named := ["internal/strconv.optimize", "internal/strconv.pow10Tab", "internal/strconv.uint64pow10", "internal/strconv.float64info", "internal/strconv.float64pow10"], apart := false, laid := [("internal/strconv.float64info", laid_internal_strconv_float64info), ("internal/strconv.optimize", laid_internal_strconv_optimize), ("internal/strconv.float64pow10", laid_internal_strconv_float64pow10), ("internal/strconv.uint64pow10", laid_internal_strconv_uint64pow10), ("internal/strconv.pow10Tab", laid_internal_strconv_pow10Tab)], narrowed := true }
def FnDecodedRealUptoSaid : Prop := fnDecodedRealUptoRow.holds Tryd.pinned (OpenSpec.upto fnDecodedRealSpec)

end Rows
end Go.Proofs.YtpefdgaijeefoaaDoor
