/-
  Single operations of a region over a frame that is not written out, guarded ones too.
-/
import Derived.Test.YtlphcidpaidclaaGreatDoorEnp
import Derived.Test.YtlphcidpaidclaaGreatDoorFmu
import Derived.LaidEqlPtr
namespace Go.Proofs.YtlphcidpaidclaaGreatDoor
open Go.RowKit
section
set_option maxRecDepth 100000
variable {ops : Array Oper} {QS : Act → Prop} {QL : Exit → Act → World → Prop} {S : World → Prop} {KT : Act → World → Prop} {KH : Act → Prop} {a : Act} {w w' : World} {rest : List Oper} {v vx vy vz : Value} {d : Tmp} {op : Op} {ty : TypeId} {p : String} {af : Array Edge} {g : Option (Nat × Bool)} {j : Nat} {q q' : Bool} {dd : Option Tmp} {x y z : Operand}

theorem yl {e : Nat} (hd : (ops[j]?).bind (·.dst) = some e) (hv : a.tmps.getD e undef = .bool q) : yielded ops a.tmps j = some q := by
  unfold yielded
  rw [hd]
  simp only [Option.bind_some]
  rcases Nat.lt_or_ge e a.tmps.size with h | h
  · simp [h] at hv ⊢
    rw [hv]
  · simp [Array.getElem?_eq_none h] at hv
    cases hv
theorem st_o (hrun : (execOp a.eval ⟨some d, op, ty, p, af, none⟩).run Tryz.prog w = .ok (.value v) w) (hsz : d < a.tmps.size) (hK : ∀ a', Up d a a' → a'.tmps.getD d undef = v → wpStill Tryz.prog ops w QS rest a') :
    wpStill Tryz.prog ops w QS (⟨some d, op, ty, p, af, none⟩ :: rest) a := st_v hrun (hK _ (Up.put _ _ (Nat.le_refl d)) (put_get _ hsz))
theorem st_og (hg : yielded ops a.tmps j = some q) (hrun : (execOp a.eval ⟨some d, op, ty, p, af, some (j, q)⟩).run Tryz.prog w = .ok (.value v) w) (hsz : d < a.tmps.size) (hK : ∀ a', Up d a a' → a'.tmps.getD d undef = v → wpStill Tryz.prog ops w QS rest a') :
    wpStill Tryz.prog ops w QS (⟨some d, op, ty, p, af, some (j, q)⟩ :: rest) a := by
  unfold wpStill
  rw [if_pos (by simp [Region.wanted, hg])]
  unfold Oper.still
  rw [hrun]
  exact ⟨rfl, hK _ (Up.put _ _ (Nat.le_refl d)) (put_get _ hsz)⟩
theorem st_sk (hg : yielded ops a.tmps j = some q') (hne : q' ≠ q) (hsz : d < a.tmps.size) (hK : ∀ a', Up d a a' → a'.tmps.getD d undef = undef → wpStill Tryz.prog ops w QS rest a') :
    wpStill Tryz.prog ops w QS (⟨some d, op, ty, p, af, some (j, q)⟩ :: rest) a := by
  unfold wpStill
  rw [if_neg (by simp [Region.wanted, hg, hne])]
  exact hK _ (Up.put _ _ (Nat.le_refl d)) (put_get _ hsz)
theorem mh_o (hrun : ∀ w, S w → (execOp a.eval ⟨some d, op, ty, p, af, none⟩).run Tryz.prog w = .ok (.value v) w) (hsz : d < a.tmps.size) (hK : ∀ a', Up d a a' → a'.tmps.getD d undef = v → wpHead ops S KH rest a') : wpHead ops S KH (⟨some d, op, ty, p, af, none⟩ :: rest) a :=
  mh_v hrun (hK _ (Up.put _ _ (Nat.le_refl d)) (put_get _ hsz))
theorem wl_o (hrun : (execOp a.eval ⟨some d, op, ty, p, af, none⟩).run Tryz.prog w = .ok (.value v) w') (hsz : d < a.tmps.size) (hK : ∀ a', Up d a a' → a'.tmps.getD d undef = v → wpList Tryz.prog ops QL rest a' w') : wpList Tryz.prog ops QL (⟨some d, op, ty, p, af, none⟩ :: rest) a w :=
  wl_v hrun (hK _ (Up.put _ _ (Nat.le_refl d)) (put_get _ hsz))

theorem ex_mv (h : a.eval x = v) : (execOp a.eval ⟨dd, .move x, ty, p, af, g⟩).run Tryz.prog w = .ok (.value v) w := by subst h; rfl
theorem ex_as (h : a.eval x = v) : (execOp a.eval ⟨dd, .assign x, ty, p, af, g⟩).run Tryz.prog w = .ok (.value v) w := by subst h; rfl
theorem ex_bin {bo : BinOp} {bt bt2 : TypeId} (hx : a.eval x = vx) (hy : a.eval y = vy) (hb : (do eqGuard bo bt x y vx vy; binOp bo bt vx vy : Sem Value).run Tryz.prog w = .ok v w) : (execOp a.eval ⟨dd, .binOp bo bt x y bt2, ty, p, af, g⟩).run Tryz.prog w = .ok (.value v) w := by
  simp only [Sem.run_bind] at hb
  simp only [execOp, hx, hy, Sem.run_bind, hb, Result.andThen_ok, Sem.run_pure]
theorem ex_pick (hx : a.eval x = .bool q) (hv : (if q then a.eval y else a.eval z) = v) : (execOp a.eval ⟨dd, .pick x y z, ty, p, af, g⟩).run Tryz.prog w = .ok (.value v) w := by
  subst hv
  simp only [execOp, hx, Sem.run_bind]
  cases q <;> rfl
theorem ex_conv {s t : TypeId} (hx : a.eval x = vx) (hc : (convert s t vx).run Tryz.prog w = .ok v w) : (execOp a.eval ⟨dd, .convert s t x, ty, p, af, g⟩).run Tryz.prog w = .ok (.value v) w := by
  simp only [execOp, hx, Sem.run_bind, hc, Result.andThen_ok, Sem.run_pure]
end
section
variable {x y : Operand}
theorem bo_lssu (m n : Int) (w : World) : (do eqGuard .lss 50 x y (.int .u64 m) (.int .u64 n); binOp .lss 50 (.int .u64 m) (.int .u64 n) : Sem Value).run Tryz.prog w = .ok (.bool (decide (m < n))) w := by
  simp [go_sem]
theorem bo_eqlu (m n : Int) (w : World) : (do eqGuard .eql 50 x y (.int .u64 m) (.int .u64 n); binOp .eql 50 (.int .u64 m) (.int .u64 n) : Sem Value).run Tryz.prog w = .ok (.bool (m == n)) w := by
  simp [go_sem]
theorem bo_gtru (m n : Int) (w : World) : (do eqGuard .gtr 50 x y (.int .u64 m) (.int .u64 n); binOp .gtr 50 (.int .u64 m) (.int .u64 n) : Sem Value).run Tryz.prog w = .ok (.bool (decide (n < m))) w := by
  simp [go_sem]
theorem bo_addu (m n : Int) (w : World) (h0 : 0 ≤ m + n) (h1 : m + n < 18446744073709551616) : (do eqGuard .add 50 x y (.int .u64 m) (.int .u64 n); binOp .add 50 (.int .u64 m) (.int .u64 n) : Sem Value).run Tryz.prog w = .ok (.int .u64 (m + n)) w := by
  simp [go_sem]
  rw [IntKind.wrap_u64]; omega
theorem bo_subu (m n : Int) (w : World) (h0 : 0 ≤ m - n) (h1 : m - n < 18446744073709551616) : (do eqGuard .sub 50 x y (.int .u64 m) (.int .u64 n); binOp .sub 50 (.int .u64 m) (.int .u64 n) : Sem Value).run Tryz.prog w = .ok (.int .u64 (m - n)) w := by
  simp [go_sem]
  rw [IntKind.wrap_u64]; omega
theorem bo_remu (m n : Int) (w : World) (h0 : 0 ≤ m) (hn : 0 < n) (h1 : m < 18446744073709551616) : (do eqGuard .rem 50 x y (.int .u64 m) (.int .u64 n); binOp .rem 50 (.int .u64 m) (.int .u64 n) : Sem Value).run Tryz.prog w = .ok (.int .u64 (m % n)) w := by
  simp [go_sem]
  rw [if_neg (by omega), Int.tmod_eq_emod_of_nonneg h0]
theorem bo_sgnil (q : Nat) (w : World) : (do eqGuard .eql 74 x y (pt q) (.pointer none); binOp .eql 74 (pt q) (.pointer none) : Sem Value).run Tryz.prog w = .ok (.bool false) w := by
  simp [go_sem]
theorem bo_mapnil (k : Option Nat) (w : World) : (do eqGuard .eql 68 x y (pto k) (.pointer none); binOp .eql 68 (pto k) (.pointer none) : Sem Value).run Tryz.prog w = .ok (.bool k.isNone) w := by
  cases k <;> simp [go_sem, pto]
theorem bo_scnil (w : World) : (do eqGuard .neq 94 x y (.pointer none) (.pointer none); binOp .neq 94 (.pointer none) (.pointer none) : Sem Value).run Tryz.prog w = .ok (.bool false) w := by
  simp [go_sem]
theorem bo_keyn1 (k : Nat) (w : World) : (do eqGuard .neq 67 x y (.pointer none) (pt k); binOp .neq 67 (.pointer none) (pt k) : Sem Value).run Tryz.prog w = .ok (.bool true) w := by
  simp [go_sem]
  kernel_rfl
theorem bo_keyn2 {k k' : Nat} {c c' : Array Value} {T T' : Nat} (hne : k ≠ k') {w : World} (ha : Blk w k T c) (hb : Blk w k' T' c') : (do eqGuard .neq 67 x y (pt k) (pt k'); binOp .neq 67 (pt k) (pt k') : Sem Value).run Tryz.prog w = .ok (.bool true) w := by
  obtain ⟨j, hj, hs⟩ : ∃ j, Tryz.prog.info? 101 = some j ∧ j.size ≠ 0 := by
    have h : (Tryz.prog.info? 101).map (·.size) = some 5 := by kernel_rfl
    obtain ⟨j, hj, hs⟩ := Option.map_eq_some_iff.1 h
    exact ⟨j, hj, by omega⟩
  have hab : (⟨k, 0, none⟩ : Addr) ≠ ⟨k', 0, none⟩ := fun e => hne (by injection e)
  have h : ∀ d : Nat, (Op.equalIn (d + 1) 67 (pt k) (pt k')).run Tryz.prog w = .ok false w := fun d => by
    simp [Op.equalIn, run_underlying Tryz.underlying67, sizeOf, typeInfo, hj, hs, run_sameAddr_other w hab ha hb]
  simp [go_sem]
  simp only [binOp]
  simp [Op.equal, Op.maxDepth, h 9999]
theorem bo_tyeq (m n : Int) (w : World) : (do eqGuard .eql 62 x y (.int .u64 m) (.int .u64 n); binOp .eql 62 (.int .u64 m) (.int .u64 n) : Sem Value).run Tryz.prog w = .ok (.bool (m == n)) w := by
  simp [go_sem]
theorem bo_tygtr (m : Int) (w : World) : (do eqGuard .gtr 62 x y (.int .u64 m) (.int .u64 0); binOp .gtr 62 (.int .u64 m) (.int .u64 0) : Sem Value).run Tryz.prog w = .ok (.bool (decide (0 < m))) w := by
  simp [go_sem]
end
end Go.Proofs.YtlphcidpaidclaaGreatDoor
