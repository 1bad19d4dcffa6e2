import Derived.Test.YbulkraaDoorFlClosed
namespace Go.Proofs.YbulkraaDoor
namespace Fl
theorem ev_1_80 : closedAll 1 80 20 = true := by kernel_rfl
theorem ev_1_100 : closedAll 1 100 20 = true := by kernel_rfl
theorem ev_1_120 : closedAll 1 120 20 = true := by kernel_rfl
theorem ev_1_140 : closedAll 1 140 20 = true := by kernel_rfl
end Fl
end Go.Proofs.YbulkraaDoor
