/-
  PLAIN MATHEMATICS for the law 'plainLine is the trimmed run before the first stopper': no program in sight.
-/
import Derived.Lib.DecodeN
namespace Go.Proofs.Qxb6615043aDoor

/-- blank: space or tab. -/
def blB (b : Int) : Bool := decide (b = 32 ∨ b = 9)
def inB (b lo hi : Int) : Bool := decide (lo ≤ b ∧ b ≤ hi)
/-- isPrintable. -/
def prB (r : Int) : Bool := decide (r = 9 ∨ r = 10 ∨ r = 133 ∨ (32 ≤ r ∧ r ≤ 126) ∨ (160 ≤ r ∧ r ≤ 55295) ∨ (57344 ≤ r ∧ r ≤ 65533) ∨ (65536 ≤ r ∧ r ≤ 1114111))
/-- isNSChar. -/
def nsB (r : Int) : Bool := decide (r ≠ 32 ∧ r ≠ 9 ∧ r ≠ 10 ∧ r ≠ 65279) && prB r
/-- isFlowIndicator. -/
def flB (r : Int) : Bool := decide (r = 44 ∨ r = 91 ∨ r = 93 ∨ r = 123 ∨ r = 125)
def safeB (r : Int) (flow : Bool) : Bool := nsB r && !(flow && flB r)

/-- The character at place i of the n bytes f, and its length. -/
def dec (n : Nat) (f : Nat → Nat) (i : Nat) : Nat × Nat := Lib.decodeN (n - i) (f i) (f (i + 1)) (f (i + 2)) (f (i + 3))

end Go.Proofs.Qxb6615043aDoor
