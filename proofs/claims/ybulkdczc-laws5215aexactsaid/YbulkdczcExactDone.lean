import Derived.Test.YbulkdczcBuilds
namespace Go.Proofs.Ybulkdczc

/-- THE STATEMENT. -/
theorem exact_proved : Rows.LawS5215AExactSaid := exact_over builds
end Go.Proofs.Ybulkdczc
