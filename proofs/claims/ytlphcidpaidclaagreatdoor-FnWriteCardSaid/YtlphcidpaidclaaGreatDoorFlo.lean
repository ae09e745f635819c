/-
  math.Ceil, by its row in the model.
-/
import Derived.Test.YtlphcidpaidclaaGreatDoorBas
import Derived.Test.YtlphcidpaidclaaGreatDoorFlb
import Derived.Test.YtlphcidpaidclaaGreatDoorFlc
import Derived.Laws.Externs
namespace Go.Proofs.YtlphcidpaidclaaGreatDoor
open Go.RowKit

/-- A float stored in a cell: as any value of one cell. -/
@[go_sem] theorem run_store_float {P : Program} {w : World} {a : Addr} {m : Mode} (k : FloatKind) (b : Nat) : (store a (.float k b) m).run P w = stored P w a (.float k b) m := run_store P w a _ m rfl

theorem toInt_ceil (b : Nat) (hb : isNaN b = false) : Extern.MathFloor.toIntegral "math.archCeil" .up #[.float .f64 b] = pure (.float .f64 (fceil b)) := by
  refine Eq.trans (b := (match FloatKind.f64.decode b with | .nan s t => _ | d => pure (.float .f64 (FloatKind.f64.encode (d.integral .up))))) rfl ?_
  unfold fceil
  cases hd : FloatKind.f64.decode b with
  | nan s t => simp [isNaN, hd] at hb
  | number s m i => rfl
  | infinity s => rfl

theorem arch_ceil (b : Nat) (hb : isNaN b = false) (w : World) :
    (callFunc 43 #[.float .f64 b]).run Tryz.prog w = .ok (.value (.float .f64 (fceil b))) w := by
  rw [run_callFunc_extern Tryz.func43 (by kernel_rfl) (by kernel_rfl) (by kernel_rfl) (e := Extern.MathFloor.toIntegral "math.archCeil" .up) (by kernel_rfl) #[.float .f64 b] w, toInt_ceil b hb]
  rfl

set_option maxRecDepth 100000 in
theorem ceil_any (b : Nat) (hb : isNaN b = false) (w : World) :
    Calls Tryz.prog 31 #[.float .f64 b] w fun e w' => e = .returned (.float .f64 (fceil b)) ∧ w = w' := by
  have HA := arch_ceil b hb
  go_enter Tryz.func31, Tryz.ntmps31
  go_wp2
  go_ret
  exact ⟨rfl, rfl⟩

theorem plain_any (n : Nat) (hn : n < 4000) (w : World) :
    Calls Tryz.prog 13 #[.float .f64 (fb n)] w fun e w' => e = .returned (.bool true) ∧ w = w' := by
  have H1 := flo_low hn
  have H2 := flo_high hn
  go_enter Tryz.func13, Tryz.ntmps13
  go_wp2
  go_ret
  exact ⟨rfl, rfl⟩
end Go.Proofs.YtlphcidpaidclaaGreatDoor
