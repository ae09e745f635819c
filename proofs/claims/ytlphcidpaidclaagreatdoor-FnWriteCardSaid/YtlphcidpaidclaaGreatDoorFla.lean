/-
  Numbers of eighths of seconds as float64: their bits in closed form; that division gives them (computed for each number below 4000).
-/
import GoSem.Core.Float
namespace Go.Proofs.YtlphcidpaidclaaGreatDoor

/-- the bits of n / 8 -/
def fb (n : Nat) : Nat := if n = 0 then 0 else (1019 + n.log2) * 4503599627370496 + n <<< (52 - n.log2)
/-- the bits of n -/
def fn (n : Nat) : Nat := if n = 0 then 0 else (1022 + n.log2) * 4503599627370496 + n <<< (52 - n.log2)
/-- the bits of what math.Ceil makes of bits -/
def fceil (b : Nat) : Nat := FloatKind.f64.encode ((FloatKind.f64.decode b).integral .up)
def isNaN (b : Nat) : Bool := match FloatKind.f64.decode b with | .nan _ _ => true | _ => false

set_option maxRecDepth 100000 in
theorem flo_near_all : ∀ n : Fin 4000, FloatKind.f64.nearest (n.val : Int) = fn n.val := by decide +kernel
set_option maxRecDepth 100000 in
theorem flo_div_all : ∀ n : Fin 4000, FloatKind.f64.format.div (fn n.val) 4620693217682128896 = some (fb n.val) := by decide +kernel
theorem flo_near {n : Nat} (h : n < 4000) : FloatKind.f64.nearest (n : Int) = fn n := flo_near_all ⟨n, h⟩
theorem flo_div {n : Nat} (h : n < 4000) : FloatKind.f64.format.div (fn n) 4620693217682128896 = some (fb n) := flo_div_all ⟨n, h⟩
end Go.Proofs.YtlphcidpaidclaaGreatDoor
