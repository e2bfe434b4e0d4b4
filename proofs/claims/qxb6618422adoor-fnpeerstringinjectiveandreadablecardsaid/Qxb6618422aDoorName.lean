import Derived.Test.Qxb6618422aDoorRows
namespace Go.Proofs.Qxb6618422aDoor
/-- The name of the table of the powers of ten: the first on the given row's own list of named variables. -/
def powName : String := Rows.fnPeerStringInjectiveAndReadableRow.named.headD Rows.fnPeerStringInjectiveAndReadableRow.program
end Go.Proofs.Qxb6618422aDoor
