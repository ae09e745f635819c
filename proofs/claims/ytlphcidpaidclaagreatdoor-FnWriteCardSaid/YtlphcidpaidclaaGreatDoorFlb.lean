/-
  Numbers of eighths of seconds as float64: how they are rounded up (computed for each number below 4000).
-/
import Derived.Test.YtlphcidpaidclaaGreatDoorFla
namespace Go.Proofs.YtlphcidpaidclaaGreatDoor
set_option maxRecDepth 100000 in
theorem flo_nan_all : ∀ n : Fin 4000, isNaN (fb n.val) = false := by decide +kernel
set_option maxRecDepth 100000 in
theorem flo_ceil_all : ∀ n : Fin 4000, fceil (fb n.val) = fn ((n.val + 7) / 8) := by decide +kernel
set_option maxRecDepth 100000 in
theorem flo_nan2_all : ∀ n : Fin 501, isNaN (fn n.val) = false := by decide +kernel
set_option maxRecDepth 100000 in
theorem flo_ceil2_all : ∀ n : Fin 501, fceil (fn n.val) = fn n.val := by decide +kernel
theorem flo_nan {n : Nat} (h : n < 4000) : isNaN (fb n) = false := flo_nan_all ⟨n, h⟩
theorem flo_ceil {n : Nat} (h : n < 4000) : fceil (fb n) = fn ((n + 7) / 8) := flo_ceil_all ⟨n, h⟩
theorem flo_nan2 {n : Nat} (h : n < 501) : isNaN (fn n) = false := flo_nan2_all ⟨n, h⟩
theorem flo_ceil2 {n : Nat} (h : n < 501) : fceil (fn n) = fn n := flo_ceil2_all ⟨n, h⟩
end Go.Proofs.YtlphcidpaidclaaGreatDoor
