import Derived.Test.YbulkraaDoorFlFn
import Derived.KernelRfl
namespace Go.Proofs.YbulkraaDoor
namespace Fl
def eight : F := some 4620693217682128896
def eM9 : F := some 4472406533629990549
def arg (i : Nat) : F := div (ofInt (i : Int)) eight
def want (p i : Nat) : F := if p = 0 then exp (neg (arg i)) else mul (add one (arg i)) (exp (neg (arg i)))
def shape (p : Nat) : F := if p = 0 then one else two
def diff (p i : Nat) : F := sub (upperGamma (shape p) (arg i)) (want p i)
/-- The law at sel % 2 = p, k % 160 = i. -/
def closed (p i : Nat) : Bool := le (if lt (diff p i) zero then neg (diff p i) else diff p i) (mul eM9 (want p i))
def closedAll (p a n : Nat) : Bool := (List.range' a n).all (closed p)
end Fl
end Go.Proofs.YbulkraaDoor
