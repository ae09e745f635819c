/-
  Numbers of eighths of seconds as float64: how they stand to nought and to great numbers (computed for each number below 4000).
-/
import Derived.Test.YtlphcidpaidclaaGreatDoorFla
namespace Go.Proofs.YtlphcidpaidclaaGreatDoor
set_option maxRecDepth 100000 in
theorem flo_low_all : ∀ n : Fin 4000, FloatKind.f64.format.order (fb n.val) 14054727237768577024 = some .gt := by decide +kernel
set_option maxRecDepth 100000 in
theorem flo_high_all : ∀ n : Fin 4000, FloatKind.f64.format.order (fb n.val) 4831355200913801216 = some .lt := by decide +kernel
set_option maxRecDepth 100000 in
theorem flo_zero_all : ∀ n : Fin 4000, FloatKind.f64.format.order 0 (fb n.val) = some (compare 0 n.val) := by decide +kernel
theorem flo_low {n : Nat} (h : n < 4000) : FloatKind.f64.format.order (fb n) 14054727237768577024 = some .gt := flo_low_all ⟨n, h⟩
theorem flo_high {n : Nat} (h : n < 4000) : FloatKind.f64.format.order (fb n) 4831355200913801216 = some .lt := flo_high_all ⟨n, h⟩
theorem flo_zero {n : Nat} (h : n < 4000) : FloatKind.f64.format.order 0 (fb n) = some (compare 0 n) := flo_zero_all ⟨n, h⟩
end Go.Proofs.YtlphcidpaidclaaGreatDoor
