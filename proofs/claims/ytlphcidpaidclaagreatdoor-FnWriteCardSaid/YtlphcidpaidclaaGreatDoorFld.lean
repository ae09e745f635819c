/-
  Whole numbers of seconds as float64 and back (computed for each number up to 500).
-/
import Derived.Test.YtlphcidpaidclaaGreatDoorFla
import Derived.Laws.FloatArith
namespace Go.Proofs.YtlphcidpaidclaaGreatDoor
set_option maxRecDepth 100000 in
theorem flo_int_all : ∀ n : Fin 501, floatToIntVal .f64 (fn n.val) .i64 = some (n.val : Int) := by decide +kernel
theorem flo_int {n : Nat} (h : n < 501) : floatToIntVal .f64 (fn n) .i64 = some (n : Int) := flo_int_all ⟨n, h⟩
end Go.Proofs.YtlphcidpaidclaaGreatDoor
