/-
  Operations that internal/strconv.ftoa64 and ftoa32 carry out, their results named.
-/
import Derived.Test.YtlphcidpaidclaaGreatDoorFfh
import Derived.Test.YtlphcidpaidclaaGreatDoorFfg
import Derived.Laws.FloatArith
import Derived.Laws.Externs
namespace Go.Proofs.YtlphcidpaidclaaGreatDoor
open Go.RowKit
set_option maxRecDepth 100000

section
variable {x y : Operand}
theorem bo_shr_r (a r : Int) (s : Nat) (hs : s < 64) (h : a / 2 ^ s = r) (w : World) : (do eqGuard .shr 25 x y (.int .u64 a) (.int .i64 s); binOp .shr 25 (.int .u64 a) (.int .i64 s) : Sem Value).run Tryz.prog w = .ok (.int .u64 r) w := by
  subst h
  have h1 : (s : Int) < 64 := by omega
  have h2 : (0 : Int) ≤ s := by omega
  simp [go_sem]
  try omega
theorem bo_shl_r (a r : Int) (s : Nat) (hs : s < 64) (h : wr (a * 2 ^ s) = r) (w : World) : (do eqGuard .shl 25 x y (.int .u64 a) (.int .i64 s); binOp .shl 25 (.int .u64 a) (.int .i64 s) : Sem Value).run Tryz.prog w = .ok (.int .u64 r) w := by
  subst h
  have h1 : (s : Int) < 64 := by omega
  have h2 : (0 : Int) ≤ s := by omega
  simp [go_sem, h1, h2, wr]
theorem bo_andu_r (a c r : Int) (h : bits .and .u64 a c = r) (w : World) : (do eqGuard .and 25 x y (.int .u64 a) (.int .u64 c); binOp .and 25 (.int .u64 a) (.int .u64 c) : Sem Value).run Tryz.prog w = .ok (.int .u64 r) w := by
  subst h; simp [go_sem]
theorem bo_oru_r (a c r : Int) (h : bits .or .u64 a c = r) (w : World) : (do eqGuard .or 25 x y (.int .u64 a) (.int .u64 c); binOp .or 25 (.int .u64 a) (.int .u64 c) : Sem Value).run Tryz.prog w = .ok (.int .u64 r) w := by
  subst h; simp [go_sem]
theorem bo_andi_r (a c r : Int) (h : bits .and .i64 a c = r) (w : World) : (do eqGuard .and 3 x y (.int .i64 a) (.int .i64 c); binOp .and 3 (.int .i64 a) (.int .i64 c) : Sem Value).run Tryz.prog w = .ok (.int .i64 r) w := by
  subst h; simp [go_sem]
theorem bo_neu_r (a c : Int) (q : Bool) (h : (a != c) = q) (w : World) : (do eqGuard .neq 25 x y (.int .u64 a) (.int .u64 c); binOp .neq 25 (.int .u64 a) (.int .u64 c) : Sem Value).run Tryz.prog w = .ok (.bool q) w := by
  subst h; simp [go_sem]
theorem bo_equ_r (a c : Int) (q : Bool) (h : (a == c) = q) (w : World) : (do eqGuard .eql 25 x y (.int .u64 a) (.int .u64 c); binOp .eql 25 (.int .u64 a) (.int .u64 c) : Sem Value).run Tryz.prog w = .ok (.bool q) w := by
  subst h; simp [go_sem]
theorem bo_eqz_r (a c : Int) (q : Bool) (h : (a == c) = q) (w : World) : (do eqGuard .eql 3 x y (.int .i64 a) (.int .i64 c); binOp .eql 3 (.int .i64 a) (.int .i64 c) : Sem Value).run Tryz.prog w = .ok (.bool q) w := by
  subst h; simp [go_sem]
theorem bo_geq_r (a c : Int) (q : Bool) (h : decide (c ≤ a) = q) (w : World) : (do eqGuard .geq 3 x y (.int .i64 a) (.int .i64 c); binOp .geq 3 (.int .i64 a) (.int .i64 c) : Sem Value).run Tryz.prog w = .ok (.bool q) w := by
  subst h; simp [go_sem]
theorem bo_leq_r (a c : Int) (q : Bool) (h : decide (a ≤ c) = q) (w : World) : (do eqGuard .leq 3 x y (.int .i64 a) (.int .i64 c); binOp .leq 3 (.int .i64 a) (.int .i64 c) : Sem Value).run Tryz.prog w = .ok (.bool q) w := by
  subst h; simp [go_sem]
theorem bo_gtr_r (a c : Int) (q : Bool) (h : decide (c < a) = q) (w : World) : (do eqGuard .gtr 3 x y (.int .i64 a) (.int .i64 c); binOp .gtr 3 (.int .i64 a) (.int .i64 c) : Sem Value).run Tryz.prog w = .ok (.bool q) w := by
  subst h; simp [go_sem]
theorem bo_addz_r (m n r : Int) (h : m + n = r) (w : World) (h0 : -9223372036854775808 ≤ r) (h1 : r < 9223372036854775808) : (do eqGuard .add 3 x y (.int .i64 m) (.int .i64 n); binOp .add 3 (.int .i64 m) (.int .i64 n) : Sem Value).run Tryz.prog w = .ok (.int .i64 r) w := by
  subst h; exact bo_addz m n w h0 h1
theorem bo_subz_r (m n r : Int) (h : m - n = r) (w : World) (h0 : -9223372036854775808 ≤ r) (h1 : r < 9223372036854775808) : (do eqGuard .sub 3 x y (.int .i64 m) (.int .i64 n); binOp .sub 3 (.int .i64 m) (.int .i64 n) : Sem Value).run Tryz.prog w = .ok (.int .i64 r) w := by
  subst h; exact bo_subz m n w h0 h1
end
theorem cv_u64_i (n : Int) (h0 : 0 ≤ n) (h1 : n < 9223372036854775808) (w : World) : (convert 25 3 (.int .u64 n)).run Tryz.prog w = .ok (.int .i64 n) w := by
  simp [go_sem]
  rw [IntKind.wrap_i64]; omega
theorem cv_u32_u64 (n : Int) (h0 : 0 ≤ n) (h1 : n < 4294967296) (w : World) : (convert 39 25 (.int .u32 n)).run Tryz.prog w = .ok (.int .u64 n) w := by
  simp [go_sem]
  rw [IntKind.wrap_u64]; omega
theorem cv_f32 (b r : Nat) (h : floatToFloatBits .f64 b .f32 = some r) (w : World) : (convert 24 139 (.float .f64 b)).run Tryz.prog w = .ok (.float .f32 r) w :=
  run_convert_float_float (P := Tryz.prog) w 24 139 .f64 .f32 b r (by kernel_rfl) (by kernel_rfl) h
theorem ex_extn {a : Act} {w : World} {dd : Option Tmp} {f : FuncId} {xs : Array Operand} {ats : Array TypeId} {ty : TypeId} {p : String} {af : Array Edge} {g : Option (Nat × Bool)} {args : Array Value} {v : Value} (hx : xs.map a.eval = args) (hf : (callFunc f args).run Tryz.prog w = .ok (.value v) w) : (execOp a.eval ⟨dd, .call ⟨.value (.func f), xs, ats⟩, ty, p, af, g⟩).run Tryz.prog w = .ok (.value v) w := by
  subst hx
  simp [go_sem]
  exact hf
theorem fbits64 (b : Nat) (w : World) : (callFunc 80 #[.float .f64 b]).run Tryz.prog w = .ok (.value (.int .u64 b)) w := by
  rw [run_callFunc_extern Tryz.func80 (by kernel_rfl) (by kernel_rfl) (by kernel_rfl) (e := Extern.MathFloatBits.float64bits) (by kernel_rfl) #[.float .f64 b] w]
  rfl
theorem fbits32 (b : Nat) (w : World) : (callFunc 79 #[.float .f32 b]).run Tryz.prog w = .ok (.value (.int .u32 b)) w := by
  rw [run_callFunc_extern Tryz.func79 (by kernel_rfl) (by kernel_rfl) (by kernel_rfl) (e := Extern.MathFloatBits.float32bits) (by kernel_rfl) #[.float .f32 b] w]
  rfl
theorem len64_any (x : Int) (w : World) (h0 : 0 ≤ x) (h1 : x ≤ 18446744073709551615) : Calls Tryz.prog 75 #[.int .u64 x] w fun e w' => e = .returned (.int .i64 (Lib.bitLen x.toNat)) ∧ w' = w := Any.bits_Len64 { Tryz.fmtInt with } x w h0 h1
theorem numD_any (u : Nat) (w : World) (h1 : 1 ≤ u) (h2 : u < 18446744073709551616) (ht : TabP w) : Calls Tryz.prog 65 #[.int .u64 u] w fun e w' => e = .returned (.int .i64 (Lib.nDigits u)) ∧ w' = w := Any.internal_strconv_numDigits { Tryz.fmtInt with } u h1 h2 w ht.u
theorem arg5 {a : Act} {x1 x2 x3 x4 x5 : Operand} {v1 v2 v3 v4 v5 : Value} (h1 : a.eval x1 = v1) (h2 : a.eval x2 = v2) (h3 : a.eval x3 = v3) (h4 : a.eval x4 = v4) (h5 : a.eval x5 = v5) : (#[x1, x2, x3, x4, x5] : Array Operand).map a.eval = #[v1, v2, v3, v4, v5] := by simp only [List.map_toArray, List.map_cons, List.map_nil, h1, h2, h3, h4, h5]
theorem arg8 {a : Act} {x1 x2 x3 x4 x5 x6 x7 x8 : Operand} {v1 v2 v3 v4 v5 v6 v7 v8 : Value} (h1 : a.eval x1 = v1) (h2 : a.eval x2 = v2) (h3 : a.eval x3 = v3) (h4 : a.eval x4 = v4) (h5 : a.eval x5 = v5) (h6 : a.eval x6 = v6) (h7 : a.eval x7 = v7) (h8 : a.eval x8 = v8) : (#[x1, x2, x3, x4, x5, x6, x7, x8] : Array Operand).map a.eval = #[v1, v2, v3, v4, v5, v6, v7, v8] := by simp only [List.map_toArray, List.map_cons, List.map_nil, h1, h2, h3, h4, h5, h6, h7, h8]
end Go.Proofs.YtlphcidpaidclaaGreatDoor
