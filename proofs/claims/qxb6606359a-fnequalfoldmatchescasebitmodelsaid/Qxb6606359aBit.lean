/-
  The plain law of the case bit, seat b6606359a: all pairs of bytes, by the kernel.
-/
import Derived.Test.Qxb6606359aPlain
namespace Go.Proofs.Qxb6606359a.Plain

/-- The case bit's model of two bytes. -/
def sameM (x y : UInt8) : Bool := x == y || ((x ||| 32) == (y ||| 32) && decide (97 ≤ (x ||| 32)) && decide ((x ||| 32) ≤ 122))
theorem sameM_eq (x y : UInt8) : sameM x y = decide (lowB x = lowB y) :=
  all_bytes (fun x => sameM x y = decide (lowB x = lowB y))
    (all_bytes (fun y => ∀ n : Fin 256, sameM (UInt8.ofNat n.val) y = decide (lowB (UInt8.ofNat n.val) = lowB y)) (by decide +kernel) y) x

end Go.Proofs.Qxb6606359a.Plain
