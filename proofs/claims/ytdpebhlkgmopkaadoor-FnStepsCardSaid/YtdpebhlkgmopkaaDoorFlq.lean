/-
 FnSteps: seconds as float64: how they stand to one another, rounded up, times eight.
-/
import Derived.Test.YtdpebhlkgmopkaaDoorCor
namespace Go.Proofs.YtdpebhlkgmopkaaDoor
theorem cmp_mul (a b c : Nat) (h : 0 < c) : compare (a * c) (b * c) = compare a b := by
 show compareOfLessAndEq _ _ = compareOfLessAndEq _ _
 unfold compareOfLessAndEq
 simp only [Nat.mul_lt_mul_right h, Nat.mul_right_cancel_iff h]
theorem cmp_cast (a b : Nat) : compare (a : Int) (b : Int) = compare a b := by
 show compareOfLessAndEq _ _ = compareOfLessAndEq _ _
 unfold compareOfLessAndEq
 simp only [Int.ofNat_lt, Int.ofNat_inj]
theorem shift_split (m : Nat) (i base : Int) (h1 : base ≤ i) (h2 : -1074 ≤ base) : m <<< (i + 1074).toNat = (m <<< (i - base).toNat) * 2 ^ (base + 1074).toNat := by
 rw [Nat.shiftLeft_eq, Nat.shiftLeft_eq, Nat.mul_assoc, ← Nat.pow_add]
 congr 2
 omega
/-- a number's value over the least power of two -/
def dval : Ieee.Datum → Option Nat
 | .number false m i => if -1074 ≤ i then some (m <<< (i + 1074).toNat) else none
 | _ => none
theorem order_dval {x y : Ieee.Datum} {a b : Nat} (hx : dval x = some a) (hy : dval y = some b) : x.order y = some (compare a b) := by
 unfold dval at hx hy
 split at hx
 · rename_i m i
   split at hy
   · rename_i n j
     split at hx
     · split at hy
       · rename_i hi hj
         injection hx with hx
         injection hy with hy
         subst hx; subst hy
         simp only [Ieee.Datum.order, Ieee.signed, Bool.false_eq_true, if_false]
         rw [shift_split m i (min i j) (by omega) (by omega), shift_split n j (min i j) (by omega) (by omega), cmp_mul _ _ _ (Nat.two_pow_pos _), cmp_cast]
       · cases hy
     · cases hx
   · cases hy
 · cases hx
set_option maxRecDepth 100000 in
theorem flo_val_all : ∀ n : Fin 1300, dval (FloatKind.f64.decode (fb n.val)) = some (n.val <<< 1071) := by decide +kernel
theorem flo_ord {a b : Nat} (ha : a < 1300) (hb : b < 1300) : FloatKind.f64.format.order (fb a) (fb b) = some (compare a b) := by
 have h := order_dval (flo_val_all ⟨a, ha⟩) (flo_val_all ⟨b, hb⟩)
 show (FloatKind.f64.decode (fb a)).order (FloatKind.f64.decode (fb b)) = _
 rw [h]
 generalize 1071 = k
 rw [Nat.shiftLeft_eq, Nat.shiftLeft_eq, cmp_mul _ _ _ (Nat.two_pow_pos k)]
theorem td_ord {T e : Nat} (hT : T < 21) (he : e < 160) : (FloatKind.f64.format.order (fn T) (fb e) == some .lt) = decide (8 * T < e) := by
 rw [fn_fb (by omega), flo_ord (by omega) (by omega)]
 by_cases h : 8 * T < e
 · rw [Nat.compare_eq_lt.2 h, decide_eq_true h]; rfl
 · rw [decide_eq_false h]
   rcases Nat.eq_or_lt_of_le (Nat.le_of_not_lt h) with h2 | h2
   · rw [Nat.compare_eq_eq.2 h2.symm]; rfl
   · rw [Nat.compare_eq_gt.2 h2]; rfl
theorem fn_eq {a b : Nat} (ha : a < 160) (hb : b < 160) : (FloatKind.f64.format.order (fn a) (fn b) == some .eq) = decide (a = b) := by
 rw [fn_fb (by omega), fn_fb (by omega), flo_ord (by omega) (by omega)]
 rcases Nat.lt_trichotomy a b with h | h | h
 · rw [Nat.compare_eq_lt.2 (by omega), decide_eq_false (by omega)]; rfl
 · rw [Nat.compare_eq_eq.2 (by omega), decide_eq_true h]; rfl
 · rw [Nat.compare_eq_gt.2 (by omega), decide_eq_false (by omega)]; rfl
set_option maxRecDepth 100000 in
theorem fl_ceil_all : ∀ n : Fin 160, fceil (fb n.val) = fn ((n.val + 7) / 8) := by decide +kernel
theorem fl_ceil {e : Nat} (h : e < 160) : fceil (fb e) = fn ((e + 7) / 8) := fl_ceil_all ⟨e, h⟩
set_option maxRecDepth 100000 in
theorem fl_nan_all : ∀ n : Fin 160, isNaN (fb n.val) = false := by decide +kernel
theorem fl_nan {e : Nat} (h : e < 160) : isNaN (fb e) = false := fl_nan_all ⟨e, h⟩
set_option maxRecDepth 100000 in
theorem fl_mul_all : ∀ n : Fin 160, FloatKind.f64.format.mul (fb n.val) 4620693217682128896 = some (fn n.val) := by decide +kernel
theorem fl_mul {e : Nat} (h : e < 160) : FloatKind.f64.format.mul (fb e) 4620693217682128896 = some (fn e) := fl_mul_all ⟨e, h⟩
end Go.Proofs.YtdpebhlkgmopkaaDoor
