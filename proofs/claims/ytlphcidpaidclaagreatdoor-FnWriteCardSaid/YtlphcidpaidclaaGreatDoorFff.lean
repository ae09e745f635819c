/-
  Lengths of the texts of eighths of seconds.
-/
import Derived.Test.YtlphcidpaidclaaGreatDoorStc
namespace Go.Proofs.YtlphcidpaidclaaGreatDoor
open Go.RowKit
set_option maxRecDepth 100000 in
theorem short_len : ∀ n : Fin 301, (shortT n.val).length ≤ 20 := by decide +kernel
set_option maxRecDepth 100000 in
theorem sec3_len : ∀ n : Fin 160, (sec3 n.val).length ≤ 20 := by decide +kernel
end Go.Proofs.YtlphcidpaidclaaGreatDoor
