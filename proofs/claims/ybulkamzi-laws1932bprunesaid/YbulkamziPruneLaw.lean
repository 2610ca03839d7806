import Derived.Test.YbulkamziT1B
import Derived.Test.YbulkamziLiftB
namespace Go.Proofs.Ybulkamzi
/-- THE STATEMENT. -/
theorem prune_proved : Rows.LawS1932BPruneSaid := lawS1932BPrune.over law_all
end Go.Proofs.Ybulkamzi
