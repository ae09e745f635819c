/-
  Eighths of seconds as float64: how they stand to one another.
-/
import Derived.Test.YtlphcidpaidclaaGreatDoorFla
namespace Go.Proofs.YtlphcidpaidclaaGreatDoor

theorem cmp_mul (a b c : Nat) (h : 0 < c) : compare (a * c) (b * c) = compare a b := by
  show compareOfLessAndEq _ _ = compareOfLessAndEq _ _
  unfold compareOfLessAndEq
  simp only [Nat.mul_lt_mul_right h, Nat.mul_right_cancel_iff h]
theorem cmp_cast (a b : Nat) : compare (a : Int) (b : Int) = compare a b := by
  show compareOfLessAndEq _ _ = compareOfLessAndEq _ _
  unfold compareOfLessAndEq
  simp only [Int.ofNat_lt, Int.ofNat_inj]
theorem shift_split (m : Nat) (i base : Int) (h1 : base ≤ i) (h2 : -1074 ≤ base) : m <<< (i + 1074).toNat = (m <<< (i - base).toNat) * 2 ^ (base + 1074).toNat := by
  rw [Nat.shiftLeft_eq, Nat.shiftLeft_eq, Nat.mul_assoc, ← Nat.pow_add]
  congr 2
  omega
/-- a number's value over the least power of two -/
def dval : Ieee.Datum → Option Nat
  | .number false m i => if -1074 ≤ i then some (m <<< (i + 1074).toNat) else none
  | _ => none
theorem order_dval {x y : Ieee.Datum} {a b : Nat} (hx : dval x = some a) (hy : dval y = some b) : x.order y = some (compare a b) := by
  unfold dval at hx hy
  split at hx
  · rename_i m i
    split at hy
    · rename_i n j
      split at hx
      · split at hy
        · rename_i hi hj
          injection hx with hx
          injection hy with hy
          subst hx; subst hy
          simp only [Ieee.Datum.order, Ieee.signed, Bool.false_eq_true, if_false]
          rw [shift_split m i (min i j) (by omega) (by omega), shift_split n j (min i j) (by omega) (by omega), cmp_mul _ _ _ (Nat.two_pow_pos _), cmp_cast]
        · cases hy
      · cases hx
    · cases hy
  · cases hx
set_option maxRecDepth 100000 in
theorem flo_val_all : ∀ n : Fin 4000, dval (FloatKind.f64.decode (fb n.val)) = some (n.val <<< 1071) := by decide +kernel
theorem flo_ord {a b : Nat} (ha : a < 4000) (hb : b < 4000) : FloatKind.f64.format.order (fb a) (fb b) = some (compare a b) := by
  have h := order_dval (flo_val_all ⟨a, ha⟩) (flo_val_all ⟨b, hb⟩)
  show (FloatKind.f64.decode (fb a)).order (FloatKind.f64.decode (fb b)) = _
  rw [h]
  generalize 1071 = k
  rw [Nat.shiftLeft_eq, Nat.shiftLeft_eq, cmp_mul _ _ _ (Nat.two_pow_pos k)]
end Go.Proofs.YtlphcidpaidclaaGreatDoor
