import Derived.Test.YbulkraaDoorFlClosed
namespace Go.Proofs.YbulkraaDoor
namespace Fl
theorem ev_1_0 : closedAll 1 0 20 = true := by kernel_rfl
theorem ev_1_20 : closedAll 1 20 20 = true := by kernel_rfl
theorem ev_1_40 : closedAll 1 40 20 = true := by kernel_rfl
theorem ev_1_60 : closedAll 1 60 20 = true := by kernel_rfl
end Fl
end Go.Proofs.YbulkraaDoor
