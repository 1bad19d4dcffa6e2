import Derived.Test.YbulkraaDoorFlClosed
namespace Go.Proofs.YbulkraaDoor
namespace Fl
theorem ev_0_80 : closedAll 0 80 20 = true := by kernel_rfl
theorem ev_0_100 : closedAll 0 100 20 = true := by kernel_rfl
theorem ev_0_120 : closedAll 0 120 20 = true := by kernel_rfl
theorem ev_0_140 : closedAll 0 140 20 = true := by kernel_rfl
end Fl
end Go.Proofs.YbulkraaDoor
