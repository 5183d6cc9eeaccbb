/-
  NARROWER THAN 'FOR EVERY INPUT', by the rows' own cells (each row's printed sentence says how): FnIndex: laid · FnIndexTable: laid · FnIndexOf: laid.
  DERIVED. THE GIVEN ROWS OF THIS SEAT. 3 by the template 'for every input the law returns true; each argument reads behind the call as it read before'; 0 by the template 'total and deterministic' (their statements: YtlhckhmoneeilaaGreatDoorTotals.lean).
  GIVEN WITH THE SEED: the statements are not yours to turn. If you find one false, say at which input.
  Laid BY PROGRAM, IN A SANDBOX (cutbox-rows.mjs): the forced cells as the released guide's own fill.sh prints them over the translation a2d8f1d011455f3b… (all of the seat's roots in one cut). By AI agents, Wed Nov 11 2026. No macro, syntax, notation, axiom, sorry.
-/
import Derived.Test.YtlhckhmoneeilaaGreatDoorChecked
import GoSem.Claim
import GoSem.ClaimJoined
import GoSem.ClaimMapViews
import Derived.JoinedTies
import Derived.KernelRfl
namespace Go.Proofs.YtlhckhmoneeilaaGreatDoor
/- THE CELL 'sum', in the pinned program and in every row, IS THE sha256 OF THE DUMP (.gsa) THAT YtlhckhmoneeilaaGreatDoorProg.lean LOADS. Nothing in Lean hashes anything: it is a label: what it is worth is what the hold of that sum in a sandbox is worth. -/
noncomputable def Tryz.pinned : Pinned := { name := "ytlhckhmoneeilaagreatdoor", sum := "a2d8f1d011455f3bc6c597d84579854f66be1922b6eea5e9c0c46d827a4ab035", checked := Tryz.checked }
namespace Rows
def none {H : Type} : Left H := { results := [], args := [] }

/- WHAT THE LISTED PACKAGE-LEVEL VARIABLES READ AS WHEN THE CALL BEGINS. Each datum BY PROGRAM (the guide's laid-datum.mjs) off the statement by which the dump's own 'gosem.cut.vars' lays the variable. In a bare row this is a premise. The card (YtlhckhmoneeilaaGreatDoorCards.lean) ties it to the program's text. -/
def laid_pub_quillon_pub_prometheus_tsdb_encoding_ErrInvalidSize {H : Type} : DataW H := .iface "*errors.errorString" (.ptr (.agg [.lit (.string [105, 110, 118, 97, 108, 105, 100, 32, 115, 105, 122, 101])]))
def laid_pub_quillon_pub_prometheus_tsdb_encoding_ErrInvalidChecksum {H : Type} : DataW H := .iface "*errors.errorString" (.ptr (.agg [.lit (.string [105, 110, 118, 97, 108, 105, 100, 32, 99, 104, 101, 99, 107, 115, 117, 109])]))
def laid_pub_quillon_pub_prometheus_storage_ErrNotFound {H : Type} : DataW H := .iface "*errors.errorString" (.ptr (.agg [.lit (.string [110, 111, 116, 32, 102, 111, 117, 110, 100])]))

/-- 'laws.FnIndex': WHATEVER THE INPUT: true; the input reads as it did. -/
def fnIndexSpec : ChangeSpec := { name := "fnIndex", fn := fun _ => fun
  | [d1, d2] => { results := [.lit (.bool true)], args := [d1, d2] }
  | _ => none }
def fnIndexRow : OpenClaim := { program := "ytlhckhmoneeilaagreatdoor", sum := "a2d8f1d011455f3bc6c597d84579854f66be1922b6eea5e9c0c46d827a4ab035", func := "pub-quillon/laws.FnIndex", spec := "fnIndex", inPlace := ["internal/bytealg.abigen_runtime_cmpstring", "math.Float64frombits", "math.Float64bits"], unfollowed := true, recurses := true, named := ["encoding/binary.BigEndian", "pub-quillon/pub/prometheus/tsdb/encoding.ErrInvalidSize", "pub-quillon/pub/prometheus/tsdb/encoding.ErrInvalidChecksum"], apart := false, laid := [("pub-quillon/pub/prometheus/tsdb/encoding.ErrInvalidSize", laid_pub_quillon_pub_prometheus_tsdb_encoding_ErrInvalidSize), ("pub-quillon/pub/prometheus/tsdb/encoding.ErrInvalidChecksum", laid_pub_quillon_pub_prometheus_tsdb_encoding_ErrInvalidChecksum)] }
def FnIndexSaid : Prop := fnIndexRow.holds Tryz.pinned (OpenSpec.ofChange fnIndexSpec)

/-- ITS FALSE NEIGHBOUR: 'it returns false'. Refute it at one input. -/
def fnIndexWrong : ChangeSpec := { name := "fnIndex", fn := fun _ => fun
  | [d1, d2] => { results := [.lit (.bool false)], args := [d1, d2] }
  | _ => none }
def FnIndexWrongFalsely : Prop := fnIndexRow.holds Tryz.pinned (OpenSpec.ofChange fnIndexWrong)

/-- 'laws.FnIndexTable': WHATEVER THE INPUT: true; the input reads as it did. -/
def fnIndexTableSpec : ChangeSpec := { name := "fnIndexTable", fn := fun _ => fun
  | [d1, d2] => { results := [.lit (.bool true)], args := [d1, d2] }
  | _ => none }
def fnIndexTableRow : OpenClaim := { program := "ytlhckhmoneeilaagreatdoor", sum := "a2d8f1d011455f3bc6c597d84579854f66be1922b6eea5e9c0c46d827a4ab035", func := "pub-quillon/laws.FnIndexTable", spec := "fnIndexTable", inPlace := ["internal/bytealg.abigen_runtime_cmpstring", "math.Float64frombits", "math.Float64bits"], unfollowed := true, recurses := true, named := ["encoding/binary.BigEndian", "pub-quillon/pub/prometheus/tsdb/encoding.ErrInvalidSize", "pub-quillon/pub/prometheus/tsdb/encoding.ErrInvalidChecksum"], apart := false, laid := [("pub-quillon/pub/prometheus/tsdb/encoding.ErrInvalidSize", laid_pub_quillon_pub_prometheus_tsdb_encoding_ErrInvalidSize), ("pub-quillon/pub/prometheus/tsdb/encoding.ErrInvalidChecksum", laid_pub_quillon_pub_prometheus_tsdb_encoding_ErrInvalidChecksum)] }
def FnIndexTableSaid : Prop := fnIndexTableRow.holds Tryz.pinned (OpenSpec.ofChange fnIndexTableSpec)

/-- ITS FALSE NEIGHBOUR: 'it returns false'. Refute it at one input. -/
def fnIndexTableWrong : ChangeSpec := { name := "fnIndexTable", fn := fun _ => fun
  | [d1, d2] => { results := [.lit (.bool false)], args := [d1, d2] }
  | _ => none }
def FnIndexTableWrongFalsely : Prop := fnIndexTableRow.holds Tryz.pinned (OpenSpec.ofChange fnIndexTableWrong)

/-- 'laws.FnIndexOf': WHATEVER THE INPUT: true; the input reads as it did. -/
def fnIndexOfSpec : ChangeSpec := { name := "fnIndexOf", fn := fun _ => fun
  | [d1, d2, d3, d4] => { results := [.lit (.bool true)], args := [d1, d2, d3, d4] }
  | _ => none }
def fnIndexOfRow : OpenClaim := { program := "ytlhckhmoneeilaagreatdoor", sum := "a2d8f1d011455f3bc6c597d84579854f66be1922b6eea5e9c0c46d827a4ab035", func := "pub-quillon/laws.FnIndexOf", spec := "fnIndexOf", inPlace := ["internal/bytealg.abigen_runtime_cmpstring", "math.Float64frombits", "math.Float64bits"], unfollowed := true, recurses := true, named := ["encoding/binary.BigEndian", "pub-quillon/pub/prometheus/tsdb/encoding.ErrInvalidSize", "pub-quillon/pub/prometheus/tsdb/encoding.ErrInvalidChecksum", "pub-quillon/pub/prometheus/storage.ErrNotFound"], apart := false, laid := [("pub-quillon/pub/prometheus/tsdb/encoding.ErrInvalidSize", laid_pub_quillon_pub_prometheus_tsdb_encoding_ErrInvalidSize), ("pub-quillon/pub/prometheus/tsdb/encoding.ErrInvalidChecksum", laid_pub_quillon_pub_prometheus_tsdb_encoding_ErrInvalidChecksum), ("pub-quillon/pub/prometheus/storage.ErrNotFound", laid_pub_quillon_pub_prometheus_storage_ErrNotFound)] }
def FnIndexOfSaid : Prop := fnIndexOfRow.holds Tryz.pinned (OpenSpec.ofChange fnIndexOfSpec)

/-- ITS FALSE NEIGHBOUR: 'it returns false'. Refute it at one input. -/
def fnIndexOfWrong : ChangeSpec := { name := "fnIndexOf", fn := fun _ => fun
  | [d1, d2, d3, d4] => { results := [.lit (.bool false)], args := [d1, d2, d3, d4] }
  | _ => none }
def FnIndexOfWrongFalsely : Prop := fnIndexOfRow.holds Tryz.pinned (OpenSpec.ofChange fnIndexOfWrong)

/- THE SECOND FORM. 'bulk': how many values and letters a reading holds, each counted each time it is reached (what is shared counts as often as it is met; a slice's spare places count too). A statement '..UptoSaid' is the law's where the arguments, and the package variables that the reading takes, are together of bulk at most 1048576: NARROWER than '..Said'. Prove '..Said' where nothing that the law and all that it calls make is longer than what came in: it says more and counts as full. Else prove '..UptoSaid'. A law counts once. -/
mutual
def uptoBulk {H : Type} : DataW H → Nat
  | .lit (.string bytes) => bytes.length + 1
  | .lit _ => 1
  | .nil => 1
  | .ptr d => uptoBulk d + 1
  | .slice elems spare => uptoBulkAll elems + uptoBulkAll spare + 1
  | .agg parts => uptoBulkAll parts + 1
  | .iface _ d => uptoBulk d + 1
  | .map entries => uptoBulkEntries entries + 1
  | .held _ => 1
def uptoBulkAll {H : Type} : List (DataW H) → Nat
  | [] => 0
  | d :: r => uptoBulk d + uptoBulkAll r
def uptoBulkEntries {H : Type} : List (Lit × DataW H) → Nat
  | [] => 0
  | x :: r => uptoBulkEntry x + uptoBulkEntries r
def uptoBulkEntry {H : Type} : Lit × DataW H → Nat
  | (.string bytes, d) => bytes.length + uptoBulk d + 1
  | (_, d) => uptoBulk d + 1
 end
def uptoSmall : (H : Type) → List (DataW H) → Bool := fun _ ds => decide (uptoBulkAll ds ≤ 1048576)
def OpenSpec.upto (s : _root_.Go.ChangeSpec) : _root_.Go.OpenSpec := { _root_.Go.OpenSpec.ofChange s with cond := some uptoSmall }

/-- 'laws.FnIndex', WHERE WHAT IT READS IS OF BULK AT MOST 1048576: true; the input reads as it did. -/
def fnIndexUptoRow : OpenClaim := { program := "ytlhckhmoneeilaagreatdoor", sum := "a2d8f1d011455f3bc6c597d84579854f66be1922b6eea5e9c0c46d827a4ab035", func := "pub-quillon/laws.FnIndex", spec := "fnIndex", inPlace := ["internal/bytealg.abigen_runtime_cmpstring", "math.Float64frombits", "math.Float64bits"], unfollowed := true, recurses := true, named := ["encoding/binary.BigEndian", "pub-quillon/pub/prometheus/tsdb/encoding.ErrInvalidSize", "pub-quillon/pub/prometheus/tsdb/encoding.ErrInvalidChecksum"], apart := false, laid := [("pub-quillon/pub/prometheus/tsdb/encoding.ErrInvalidSize", laid_pub_quillon_pub_prometheus_tsdb_encoding_ErrInvalidSize), ("pub-quillon/pub/prometheus/tsdb/encoding.ErrInvalidChecksum", laid_pub_quillon_pub_prometheus_tsdb_encoding_ErrInvalidChecksum)], narrowed := true }
def FnIndexUptoSaid : Prop := fnIndexUptoRow.holds Tryz.pinned (OpenSpec.upto fnIndexSpec)

/-- 'laws.FnIndexTable', WHERE WHAT IT READS IS OF BULK AT MOST 1048576: true; the input reads as it did. -/
def fnIndexTableUptoRow : OpenClaim := { program := "ytlhckhmoneeilaagreatdoor", sum := "a2d8f1d011455f3bc6c597d84579854f66be1922b6eea5e9c0c46d827a4ab035", func := "pub-quillon/laws.FnIndexTable", spec := "fnIndexTable", inPlace := ["internal/bytealg.abigen_runtime_cmpstring", "math.Float64frombits", "math.Float64bits"], unfollowed := true, recurses := true, named := ["encoding/binary.BigEndian", "pub-quillon/pub/prometheus/tsdb/encoding.ErrInvalidSize", "pub-quillon/pub/prometheus/tsdb/encoding.ErrInvalidChecksum"], apart := false, laid := [("pub-quillon/pub/prometheus/tsdb/encoding.ErrInvalidSize", laid_pub_quillon_pub_prometheus_tsdb_encoding_ErrInvalidSize), ("pub-quillon/pub/prometheus/tsdb/encoding.ErrInvalidChecksum", laid_pub_quillon_pub_prometheus_tsdb_encoding_ErrInvalidChecksum)], narrowed := true }
def FnIndexTableUptoSaid : Prop := fnIndexTableUptoRow.holds Tryz.pinned (OpenSpec.upto fnIndexTableSpec)

/-- 'laws.FnIndexOf', WHERE WHAT IT READS IS OF BULK AT MOST 1048576: true; the input reads as it did. -/
def fnIndexOfUptoRow : OpenClaim := { program := "ytlhckhmoneeilaagreatdoor", sum := "a2d8f1d011455f3bc6c597d84579854f66be1922b6eea5e9c0c46d827a4ab035", func := "pub-quillon/laws.FnIndexOf", spec := "fnIndexOf", inPlace := ["internal/bytealg.abigen_runtime_cmpstring", "math.Float64frombits", "math.Float64bits"], unfollowed := true, recurses := true, named := ["encoding/binary.BigEndian", "pub-quillon/pub/prometheus/tsdb/encoding.ErrInvalidSize", "pub-quillon/pub/prometheus/tsdb/encoding.ErrInvalidChecksum", "pub-quillon/pub/prometheus/storage.ErrNotFound"], apart := false, laid := [("pub-quillon/pub/prometheus/tsdb/encoding.ErrInvalidSize", laid_pub_quillon_pub_prometheus_tsdb_encoding_ErrInvalidSize), ("pub-quillon/pub/prometheus/tsdb/encoding.ErrInvalidChecksum", laid_pub_quillon_pub_prometheus_tsdb_encoding_ErrInvalidChecksum), ("pub-quillon/pub/prometheus/storage.ErrNotFound", laid_pub_quillon_pub_prometheus_storage_ErrNotFound)], narrowed := true }
def FnIndexOfUptoSaid : Prop := fnIndexOfUptoRow.holds Tryz.pinned (OpenSpec.upto fnIndexOfSpec)

end Rows
end Go.Proofs.YtlhckhmoneeilaaGreatDoor
