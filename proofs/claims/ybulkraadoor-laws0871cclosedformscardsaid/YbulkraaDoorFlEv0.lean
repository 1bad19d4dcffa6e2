import Derived.Test.YbulkraaDoorFlClosed
namespace Go.Proofs.YbulkraaDoor
namespace Fl
theorem ev_0_0 : closedAll 0 0 20 = true := by kernel_rfl
theorem ev_0_20 : closedAll 0 20 20 = true := by kernel_rfl
theorem ev_0_40 : closedAll 0 40 20 = true := by kernel_rfl
theorem ev_0_60 : closedAll 0 60 20 = true := by kernel_rfl
end Fl
end Go.Proofs.YbulkraaDoor
