/-
  NARROWER THAN 'FOR EVERY INPUT', by the rows' own cells (each row's printed sentence says how): FnWholeSelect: laid.
  DERIVED. THE GIVEN ROWS OF THIS SEAT. 1 by the template 'for every input the law returns true; each argument reads behind the call as it read before'; 0 by the template 'total and deterministic' (their statements: YtlgefdfflmgocaaGreatDoorTotals.lean).
  GIVEN WITH THE SEED: the statements are not yours to turn. If you find one false, say at which input.
  Laid BY PROGRAM, IN A SANDBOX (cutbox-rows.mjs): the forced cells as the released guide's own fill.sh prints them over the translation 193257ddc18db080… (all of the seat's roots in one cut). By AI agents, Wed Nov 11 2026. No macro, syntax, notation, axiom, sorry.
-/
import Derived.Test.YtlgefdfflmgocaaGreatDoorChecked
import GoSem.Claim
import GoSem.ClaimJoined
import GoSem.ClaimMapViews
import Derived.JoinedTies
import Derived.KernelRfl
namespace Go.Proofs.YtlgefdfflmgocaaGreatDoor
/- THE CELL 'sum', in the pinned program and in every row, IS THE sha256 OF THE DUMP (.gsa) THAT YtlgefdfflmgocaaGreatDoorProg.lean LOADS. Nothing in Lean hashes anything: it is a label: what it is worth is what the hold of that sum in a sandbox is worth. -/
noncomputable def Tryz.pinned : Pinned := { name := "ytlgefdfflmgocaagreatdoor", sum := "193257ddc18db0803c89f0671f71a8fcd350b24be3453b23b41985b7aa3cacb7", checked := Tryz.checked }
namespace Rows
def none {H : Type} : Left H := { results := [], args := [] }

/- WHAT THE LISTED PACKAGE-LEVEL VARIABLES READ AS WHEN THE CALL BEGINS. Each datum BY PROGRAM (the guide's laid-datum.mjs) off the statement by which the dump's own 'gosem.cut.vars' lays the variable. In a bare row this is a premise. The card (YtlgefdfflmgocaaGreatDoorCards.lean) ties it to the program's text. -/
def laid_pub_quillon_pub_prometheus_tsdb_encoding_ErrInvalidSize {H : Type} : DataW H := .iface "*errors.errorString" (.ptr (.agg [.lit (.string [105, 110, 118, 97, 108, 105, 100, 32, 115, 105, 122, 101])]))
def laid_pub_quillon_pub_prometheus_tsdb_encoding_ErrInvalidChecksum {H : Type} : DataW H := .iface "*errors.errorString" (.ptr (.agg [.lit (.string [105, 110, 118, 97, 108, 105, 100, 32, 99, 104, 101, 99, 107, 115, 117, 109])]))

/-- 'laws.FnWholeSelect': WHATEVER THE INPUT: true; the input reads as it did. -/
def fnWholeSelectSpec : ChangeSpec := { name := "fnWholeSelect", fn := fun _ => fun
  | [d1, d2] => { results := [.lit (.bool true)], args := [d1, d2] }
  | _ => none }
def fnWholeSelectRow : OpenClaim := { program := "ytlgefdfflmgocaagreatdoor", sum := "193257ddc18db0803c89f0671f71a8fcd350b24be3453b23b41985b7aa3cacb7", func := "pub-quillon/laws.FnWholeSelect", spec := "fnWholeSelect", inPlace := ["math.Float64frombits", "internal/bytealg.abigen_runtime_cmpstring", "math.Float64bits"], unfollowed := true, recurses := true, named := ["encoding/binary.BigEndian", "pub-quillon/pub/prometheus/tsdb/encoding.ErrInvalidSize", "pub-quillon/pub/prometheus/tsdb/encoding.ErrInvalidChecksum"], apart := false, laid := [("pub-quillon/pub/prometheus/tsdb/encoding.ErrInvalidSize", laid_pub_quillon_pub_prometheus_tsdb_encoding_ErrInvalidSize), ("pub-quillon/pub/prometheus/tsdb/encoding.ErrInvalidChecksum", laid_pub_quillon_pub_prometheus_tsdb_encoding_ErrInvalidChecksum)] }
def FnWholeSelectSaid : Prop := fnWholeSelectRow.holds Tryz.pinned (OpenSpec.ofChange fnWholeSelectSpec)

/-- ITS FALSE NEIGHBOUR: 'it returns false'. Refute it at one input. -/
def fnWholeSelectWrong : ChangeSpec := { name := "fnWholeSelect", fn := fun _ => fun
  | [d1, d2] => { results := [.lit (.bool false)], args := [d1, d2] }
  | _ => none }
def FnWholeSelectWrongFalsely : Prop := fnWholeSelectRow.holds Tryz.pinned (OpenSpec.ofChange fnWholeSelectWrong)

/- THE SECOND FORM. 'bulk': how many values and letters a reading holds, each counted each time it is reached (what is shared counts as often as it is met; a slice's spare places count too). A statement '..UptoSaid' is the law's where the arguments, and the package variables that the reading takes, are together of bulk at most 1048576: NARROWER than '..Said'. Prove '..Said' where nothing that the law and all that it calls make is longer than what came in: it says more and counts as full. Else prove '..UptoSaid'. A law counts once. -/
mutual
def uptoBulk {H : Type} : DataW H → Nat
  | .lit (.string bytes) => bytes.length + 1
  | .lit _ => 1
  | .nil => 1
  | .ptr d => uptoBulk d + 1
  | .slice elems spare => uptoBulkAll elems + uptoBulkAll spare + 1
  | .agg parts => uptoBulkAll parts + 1
  | .iface _ d => uptoBulk d + 1
  | .map entries => uptoBulkEntries entries + 1
  | .held _ => 1
def uptoBulkAll {H : Type} : List (DataW H) → Nat
  | [] => 0
  | d :: r => uptoBulk d + uptoBulkAll r
def uptoBulkEntries {H : Type} : List (Lit × DataW H) → Nat
  | [] => 0
  | x :: r => uptoBulkEntry x + uptoBulkEntries r
def uptoBulkEntry {H : Type} : Lit × DataW H → Nat
  | (.string bytes, d) => bytes.length + uptoBulk d + 1
  | (_, d) => uptoBulk d + 1
 end
def uptoSmall : (H : Type) → List (DataW H) → Bool := fun _ ds => decide (uptoBulkAll ds ≤ 1048576)
def OpenSpec.upto (s : _root_.Go.ChangeSpec) : _root_.Go.OpenSpec := { _root_.Go.OpenSpec.ofChange s with cond := some uptoSmall }

/-- 'laws.FnWholeSelect', WHERE WHAT IT READS IS OF BULK AT MOST 1048576: true; the input reads as it did. -/
def fnWholeSelectUptoRow : OpenClaim := { program := "ytlgefdfflmgocaagreatdoor", sum := "193257ddc18db0803c89f0671f71a8fcd350b24be3453b23b41985b7aa3cacb7", func := "pub-quillon/laws.FnWholeSelect", spec := "fnWholeSelect", inPlace := ["math.Float64frombits", "internal/bytealg.abigen_runtime_cmpstring", "math.Float64bits"], unfollowed := true, recurses := true, named := ["encoding/binary.BigEndian", "pub-quillon/pub/prometheus/tsdb/encoding.ErrInvalidSize", "pub-quillon/pub/prometheus/tsdb/encoding.ErrInvalidChecksum"], apart := false, laid := [("pub-quillon/pub/prometheus/tsdb/encoding.ErrInvalidSize", laid_pub_quillon_pub_prometheus_tsdb_encoding_ErrInvalidSize), ("pub-quillon/pub/prometheus/tsdb/encoding.ErrInvalidChecksum", laid_pub_quillon_pub_prometheus_tsdb_encoding_ErrInvalidChecksum)], narrowed := true }
def FnWholeSelectUptoSaid : Prop := fnWholeSelectUptoRow.holds Tryz.pinned (OpenSpec.upto fnWholeSelectSpec)

end Rows
end Go.Proofs.YtlgefdfflmgocaaGreatDoor
