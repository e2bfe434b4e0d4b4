import Derived.Test.Qxb6618475aDoorRows
namespace Go.Proofs.Qxb6618475aDoor
/-- The name of the table of the powers of ten: the first on the given row's own list of named variables. -/
def powName : String := Rows.fnSourceAppendIsPrefixPlusPathColonDecimalRow.named.headD Rows.fnSourceAppendIsPrefixPlusPathColonDecimalRow.program
end Go.Proofs.Qxb6618475aDoor
