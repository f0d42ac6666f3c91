/-
  The plain data and functions of the route laws: labels, floats by their order. No Go in sight but the float format's own order.
-/
import GoSem.Core.Float
import Derived.Laws.Cover2
namespace Go.Proofs.Qxb6601457a

/-- A label, field by field: weight, lo, delay (bits of float64), hops, step, prev. -/
structure Lab where
  wt : Nat
  lo : Nat
  de : Nat
  ho : Int
  st : Int
  pr : Int

def ford (x y : Nat) : Option Ordering := FloatKind.f64.format.order x y
def flt (x y : Nat) : Bool := ford x y == some .lt
def feq (x y : Nat) : Bool := ford x y == some .eq
def fle (x y : Nat) : Bool := ford x y == some .lt || ford x y == some .eq

def asGoodB (x y : Lab) : Bool := ((flt x.wt y.wt || (feq x.wt y.wt && fle x.lo y.lo)) && fle x.de y.de) && decide (x.ho ≤ y.ho)

/-- '-0'. -/
def negz (x : Nat) : Bool := feq x 0 && (FloatKind.f64.format.read x).neg
def sameF (x y : Nat) : Bool := feq x y && (negz x == negz y)

end Go.Proofs.Qxb6601457a
