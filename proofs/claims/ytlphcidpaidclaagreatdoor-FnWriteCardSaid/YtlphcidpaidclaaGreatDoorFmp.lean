/-
  A map of texts under float64 keys: looking up in an empty map and in a map of one, and putting the first.
-/
import Derived.Test.YtlphcidpaidclaaGreatDoorFlo
import Derived.MapKept
import Derived.Maps.OwnOps
namespace Go.Proofs.YtlphcidpaidclaaGreatDoor
open Go.RowKit

theorem zeroStr (w : World) : (zeroValue 9).run Tryz.prog w = .ok (.string { data := #[] }) w := by kernel_rfl
theorem ck_float (e : Bool) (x : Nat) (w : World) : (Instr.checkKey e 10000 24 (.float .f64 x)).run Tryz.prog w = .ok () w := by kernel_rfl
theorem fk_none (x : Nat) (w : World) : (Instr.findKey 24 (.float .f64 x) []).run Tryz.prog w = .ok none w := by kernel_rfl
theorem und_map (w : World) : (underlying 123).run Tryz.prog w = .ok (.map 24 9) w := by kernel_rfl
theorem eq_float (x y : Nat) (w : World) : (Op.equal 24 (.float .f64 x) (.float .f64 y)).run Tryz.prog w = .ok (FloatKind.f64.format.order x y == some .eq) w := by kernel_rfl

theorem fmap_none (r x : Nat) (w : World) (h : w.heap[r]? = some (.map #[] 0)) :
    (Instr.lookup 123 (.map (some r)) (.float .f64 x) true).run Tryz.prog w = .ok (.tuple #[.string { data := #[] }, .bool false]) w := by
  unfold Instr.lookup
  simp only [Sem.run_bind, und_map, Result.andThen_ok, run_getObj_map w r _ _ h, ck_float, fk_none, zeroStr, Sem.run_pure, if_true]

/-- the one entry -/
abbrev oneEnt (x : Nat) (s : ByteArray) : Array MapEntry := #[{ key := .float .f64 x, val := .string s, born := 0 }]

theorem fk_one (x : Nat) (s : ByteArray) (hx : FloatKind.f64.format.order x x = some .eq) (w : World) : (Instr.findKey 24 (.float .f64 x) (oneEnt x s).toList).run Tryz.prog w = .ok (some (0, .string s)) w := by
  have e1 : (underlying 24).run Tryz.prog w = .ok (.float .f64) w := by kernel_rfl
  have e2 : Instr.findNow (.float .f64) (.float .f64 x) (oneEnt x s).toList 0 = none := rfl
  unfold Instr.findKey
  simp only [Sem.run_bind, e1, Result.andThen_ok, e2]
  show (Instr.findAsking _ _ _ _).run _ _ = _
  unfold Instr.findAsking
  simp only [Sem.run_bind, eq_float, hx, Result.andThen_ok, beq_self_eq_true, if_true, Sem.run_pure]

theorem fmap_one (r x : Nat) (s : ByteArray) (hx : FloatKind.f64.format.order x x = some .eq) (w : World) (h : w.heap[r]? = some (.map (oneEnt x s) 1)) :
    (Instr.lookup 123 (.map (some r)) (.float .f64 x) false).run Tryz.prog w = .ok (.string s) w := by
  unfold Instr.lookup
  simp only [Sem.run_bind, und_map, Result.andThen_ok, run_getObj_map w r _ _ h, ck_float, fk_one x s hx, Sem.run_pure, if_false, Bool.false_eq_true]

/-- a block put in the place of another -/
abbrev putB (w : World) (r : Nat) (o : Obj) : World := { w with heap := w.heap.setIfInBounds r o }
theorem fmap_put (r x : Nat) (s : ByteArray) (w : World) (h : w.heap[r]? = some (.map #[] 0)) :
    (Instr.mapUpdate 123 (.map (some r)) (.float .f64 x) (.string s)).run Tryz.prog w = .ok () (putB w r (.map (oneEnt x s) 1)) := by
  unfold Instr.mapUpdate
  simp only [Sem.run_bind, und_map, Result.andThen_ok, run_getObj_map w r _ _ h, ck_float, fk_none]
  exact MapKept.run_setObj_map _ h
theorem putB_grown (w : World) (r : Nat) (o : Obj) : w.grownBy (putB w r o) (some r) :=
  ⟨rfl, rfl, rfl, by simp, fun k hk hne => by
    show (w.heap.setIfInBounds r o)[k]? = _
    rw [Array.getElem?_setIfInBounds_ne (fun e => hne (by rw [e]))]⟩
theorem putB_same (w : World) (r : Nat) (o : Obj) (h : r < w.heap.size) : (putB w r o).heap[r]? = some o := by
  show (w.heap.setIfInBounds r o)[r]? = _
  simp [h]

theorem wpList_fl {P : Program} {w : World} {ops : Array Oper} {rest : List Oper} {o : Oper} {a : Act} {Q : Exit → Act → World → Prop} (hg : o.guard = none) (m x : Operand) (t : TypeId) (c : Bool) (hop : o.op = Op.lookup t m x c)
    (mv xv v : Value) (hm : a.eval m = mv) (hx : a.eval x = xv) (hrun : (Instr.lookup t mv xv c).run P w = .ok v w) (hK : wpList P ops Q rest (a.put o.dst v) w) : wpList P ops Q (o :: rest) a w := by
  refine wpList_plain hg fun K' hK' => ?_
  unfold Oper.wp
  simp [execOp, hop, hm, hx, hrun, Result.andThen]
  exact hK' _ _ hK
theorem wpList_fu {P : Program} {w w' : World} {ops : Array Oper} {rest : List Oper} {o : Oper} {a : Act} {Q : Exit → Act → World → Prop} (hg : o.guard = none) (m x v : Operand) (t : TypeId) (hop : o.op = Op.mapUpdate t m x v)
    (mv xv vv : Value) (hm : a.eval m = mv) (hx : a.eval x = xv) (hv : a.eval v = vv) (hrun : (Instr.mapUpdate t mv xv vv).run P w = .ok () w') (hK : wpList P ops Q rest (a.put o.dst undef) w') : wpList P ops Q (o :: rest) a w := by
  refine wpList_plain hg fun K' hK' => ?_
  unfold Oper.wp
  simp [execOp, hop, hm, hx, hv, hrun, Result.andThen]
  exact hK' _ _ hK

theorem putB_other (w : World) (r : Nat) (o : Obj) (k : Nat) (h : k ≠ r) : (putB w r o).heap[k]? = w.heap[k]? := by
  show (w.heap.setIfInBounds r o)[k]? = _
  rw [Array.getElem?_setIfInBounds_ne (fun e => h e.symm)]
theorem order_self (b : Nat) (h : isNaN b = false) : FloatKind.f64.format.order b b = some .eq := by
  show (FloatKind.f64.decode b).order (FloatKind.f64.decode b) = _
  cases hd : FloatKind.f64.decode b with
  | nan s t => simp [isNaN, hd] at h
  | number s m i => simp [Ieee.Datum.order]
  | infinity s => cases s <;> rfl
end Go.Proofs.YtlphcidpaidclaaGreatDoor
