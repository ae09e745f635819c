/-
  Operations one by one over a frame that is not written out, whatever slot they write; the four ways in which a region is walked.
-/
import Derived.Test.YtlphcidpaidclaaGreatDoorStc
namespace Go.Proofs.YtlphcidpaidclaaGreatDoor
open Go.RowKit

/-- all slots but d stand as they stood -/
structure Pt (d : Nat) (a a' : Act) : Prop where
  size : a'.tmps.size = a.tmps.size
  defers : a'.defers = a.defers
  oth : ∀ t, t ≠ d → a'.tmps.getD t undef = a.tmps.getD t undef
theorem Pt.put (d : Nat) (a : Act) (v : Value) : Pt d a (a.put (some d) v) := ⟨put_size, rfl, fun _ h => put_other (Ne.symm h)⟩
theorem Pt.v {d : Nat} {a a' : Act} (u : Pt d a a') (t : Nat) {v : Value} (h : a.tmps.getD t undef = v) (ht : t ≠ d) : a'.tmps.getD t undef = v := (u.oth t ht).trans h
/-- a frame of so many slots -/
structure Fz (N : Nat) (a : Act) : Prop where
  size : a.tmps.size = N
  defers : a.defers = []
theorem Fz.pt {N d : Nat} {a a' : Act} (h : Fz N a) (u : Pt d a a') : Fz N a' := ⟨u.size.trans h.size, u.defers.trans h.defers⟩

section
set_option maxRecDepth 100000
variable {ops : Array Oper} {QS : Act → Prop} {QL : Exit → Act → World → Prop} {S : World → Prop} {KT : Act → World → Prop} {KH : Act → Prop} {a : Act} {w w' : World} {rest : List Oper} {v : Value} {d : Tmp} {op : Op} {ty : TypeId} {p : String} {af : Array Edge} {j : Nat} {q q' : Bool} {f : FuncId} {args : Array Value} {R : Value → World → Prop}

theorem wl_p (hrun : (execOp a.eval ⟨some d, op, ty, p, af, none⟩).run Tryz.prog w = .ok (.value v) w') (hsz : d < a.tmps.size) (hK : ∀ a', Pt d a a' → a'.tmps.getD d undef = v → wpList Tryz.prog ops QL rest a' w') :
    wpList Tryz.prog ops QL (⟨some d, op, ty, p, af, none⟩ :: rest) a w := wl_v hrun (hK _ (Pt.put _ _ _) (put_get _ hsz))
theorem wl_n (hrun : (execOp a.eval ⟨none, op, ty, p, af, none⟩).run Tryz.prog w = .ok .skip w') (hK : wpList Tryz.prog ops QL rest a w') :
    wpList Tryz.prog ops QL (⟨none, op, ty, p, af, none⟩ :: rest) a w := by
  refine wpList_plain rfl fun K hk => ?_
  unfold Oper.wp
  rw [hrun]
  exact hk _ _ hK
theorem wl_cl (hrun : (execOp a.eval ⟨some d, op, ty, p, af, none⟩).run Tryz.prog w = .ok (.enter f args) w) (hC : Calls Tryz.prog f args w fun e w'' => ∃ v, e = .returned v ∧ R v w'') (hsz : d < a.tmps.size)
    (hK : ∀ v w'', R v w'' → ∀ a', Pt d a a' → a'.tmps.getD d undef = v → wpList Tryz.prog ops QL rest a' w'') : wpList Tryz.prog ops QL (⟨some d, op, ty, p, af, none⟩ :: rest) a w :=
  wl_c hrun hC fun v w'' h => hK v w'' h _ (Pt.put _ _ _) (put_get _ hsz)
theorem wl_g (hg : yielded ops a.tmps j = some q) (hrun : (execOp a.eval ⟨some d, op, ty, p, af, some (j, q)⟩).run Tryz.prog w = .ok (.value v) w') (hsz : d < a.tmps.size) (hK : ∀ a', Pt d a a' → a'.tmps.getD d undef = v → wpList Tryz.prog ops QL rest a' w') :
    wpList Tryz.prog ops QL (⟨some d, op, ty, p, af, some (j, q)⟩ :: rest) a w := by
  refine wpList_step fun K hk => ?_
  rw [if_pos (by simp [Region.wanted, hg])]
  unfold Oper.wp
  rw [hrun]
  exact hk _ _ (hK _ (Pt.put _ _ _) (put_get _ hsz))
theorem wl_gc (hg : yielded ops a.tmps j = some q) (hrun : (execOp a.eval ⟨some d, op, ty, p, af, some (j, q)⟩).run Tryz.prog w = .ok (.enter f args) w) (hC : Calls Tryz.prog f args w fun e w'' => ∃ v, e = .returned v ∧ R v w'') (hsz : d < a.tmps.size)
    (hK : ∀ v w'', R v w'' → ∀ a', Pt d a a' → a'.tmps.getD d undef = v → wpList Tryz.prog ops QL rest a' w'') : wpList Tryz.prog ops QL (⟨some d, op, ty, p, af, some (j, q)⟩ :: rest) a w := by
  refine wpList_step fun K hk => ?_
  rw [if_pos (by simp [Region.wanted, hg])]
  unfold Oper.wp
  rw [hrun]
  refine hC.mono ?_
  rintro e w'' ⟨v, rfl, hR⟩
  exact hk _ _ (hK v w'' hR _ (Pt.put _ _ _) (put_get _ hsz))
theorem wl_k (hg : yielded ops a.tmps j = some q') (hne : q' ≠ q) (hsz : d < a.tmps.size) (hK : ∀ a', Pt d a a' → a'.tmps.getD d undef = undef → wpList Tryz.prog ops QL rest a' w) :
    wpList Tryz.prog ops QL (⟨some d, op, ty, p, af, some (j, q)⟩ :: rest) a w := by
  refine wpList_step fun K hk => ?_
  rw [if_neg (by simp [Region.wanted, hg, hne])]
  exact hk _ _ (hK _ (Pt.put _ _ _) (put_get _ hsz))
theorem st_p (hrun : (execOp a.eval ⟨some d, op, ty, p, af, none⟩).run Tryz.prog w = .ok (.value v) w) (hsz : d < a.tmps.size) (hK : ∀ a', Pt d a a' → a'.tmps.getD d undef = v → wpStill Tryz.prog ops w QS rest a') :
    wpStill Tryz.prog ops w QS (⟨some d, op, ty, p, af, none⟩ :: rest) a := st_v hrun (hK _ (Pt.put _ _ _) (put_get _ hsz))
theorem st_cl (hrun : (execOp a.eval ⟨some d, op, ty, p, af, none⟩).run Tryz.prog w = .ok (.enter f args) w) (hC : Calls Tryz.prog f args w fun e w'' => e = .returned v ∧ w'' = w) (hsz : d < a.tmps.size) (hK : ∀ a', Pt d a a' → a'.tmps.getD d undef = v → wpStill Tryz.prog ops w QS rest a') :
    wpStill Tryz.prog ops w QS (⟨some d, op, ty, p, af, none⟩ :: rest) a := st_c hrun hC (hK _ (Pt.put _ _ _) (put_get _ hsz))
theorem st_g (hg : yielded ops a.tmps j = some q) (hrun : (execOp a.eval ⟨some d, op, ty, p, af, some (j, q)⟩).run Tryz.prog w = .ok (.value v) w) (hsz : d < a.tmps.size) (hK : ∀ a', Pt d a a' → a'.tmps.getD d undef = v → wpStill Tryz.prog ops w QS rest a') :
    wpStill Tryz.prog ops w QS (⟨some d, op, ty, p, af, some (j, q)⟩ :: rest) a := by
  unfold wpStill
  rw [if_pos (by simp [Region.wanted, hg])]
  unfold Oper.still
  rw [hrun]
  exact ⟨rfl, hK _ (Pt.put _ _ _) (put_get _ hsz)⟩
theorem st_k (hg : yielded ops a.tmps j = some q') (hne : q' ≠ q) (hsz : d < a.tmps.size) (hK : ∀ a', Pt d a a' → a'.tmps.getD d undef = undef → wpStill Tryz.prog ops w QS rest a') :
    wpStill Tryz.prog ops w QS (⟨some d, op, ty, p, af, some (j, q)⟩ :: rest) a := by
  unfold wpStill
  rw [if_neg (by simp [Region.wanted, hg, hne])]
  exact hK _ (Pt.put _ _ _) (put_get _ hsz)
theorem mh_p (hrun : ∀ w, S w → (execOp a.eval ⟨some d, op, ty, p, af, none⟩).run Tryz.prog w = .ok (.value v) w) (hsz : d < a.tmps.size) (hK : ∀ a', Pt d a a' → a'.tmps.getD d undef = v → wpHead ops S KH rest a') : wpHead ops S KH (⟨some d, op, ty, p, af, none⟩ :: rest) a :=
  mh_v hrun (hK _ (Pt.put _ _ _) (put_get _ hsz))
theorem mt_p (hrun : (execOp a.eval ⟨some d, op, ty, p, af, none⟩).run Tryz.prog w = .ok (.value v) w') (hS : S w') (hsz : d < a.tmps.size) (hK : ∀ a', Pt d a a' → a'.tmps.getD d undef = v → wpTail ops S KT rest a' w') : wpTail ops S KT (⟨some d, op, ty, p, af, none⟩ :: rest) a w :=
  mt_v hrun ⟨hS, hK _ (Pt.put _ _ _) (put_get _ hsz)⟩
theorem mt_n (hrun : (execOp a.eval ⟨none, op, ty, p, af, none⟩).run Tryz.prog w = .ok .skip w') (hS : S w') (hK : wpTail ops S KT rest a w') : wpTail ops S KT (⟨none, op, ty, p, af, none⟩ :: rest) a w := by
  refine ⟨by simp [Region.wanted], ?_⟩
  unfold Oper.wp
  rw [hrun]
  exact ⟨hS, hK⟩
theorem mt_cl (hrun : (execOp a.eval ⟨some d, op, ty, p, af, none⟩).run Tryz.prog w = .ok (.enter f args) w) (hC : Calls Tryz.prog f args w fun e w'' => ∃ v, e = .returned v ∧ R v w'') (hsz : d < a.tmps.size)
    (hK : ∀ v w'', R v w'' → S w'' ∧ ∀ a', Pt d a a' → a'.tmps.getD d undef = v → wpTail ops S KT rest a' w'') : wpTail ops S KT (⟨some d, op, ty, p, af, none⟩ :: rest) a w :=
  mt_c hrun hC fun v w'' h => ⟨(hK v w'' h).1, (hK v w'' h).2 _ (Pt.put _ _ _) (put_get _ hsz)⟩

variable {dd : Option Tmp} {g : Option (Nat × Bool)} {x y : Operand} {vx vy : Value}
/-- a store of one cell -/
theorem ex_st {T : TypeId} {ad : Addr} (hx : a.eval x = .pointer (some ad)) (hy : a.eval y = v) (h : (Instr.storeAt T (.pointer (some ad)) v).run Tryz.prog w = .ok () w') : (execOp a.eval ⟨dd, .store T x y, ty, p, af, g⟩).run Tryz.prog w = .ok .skip w' := by
  simp only [execOp, hx, hy, Sem.run_bind, h, Result.andThen_ok, Sem.run_pure]
/-- a type of one cell, for stores -/
def SZ (T : Nat) : Prop := ∀ w, (sizeOf T : Sem Nat).run Tryz.prog w = .ok 1 w
theorem store1 {T : Nat} {ad : Addr} {old : Value} (hT : SZ T) (hv : v.oneCell' = true) (hc : w.cell? ad = some old) (hf : w.frozen? ad = false) : (Instr.storeAt T (.pointer (some ad)) v).run Tryz.prog w = .ok () (w.setCell ad v) := by
  unfold Instr.storeAt Instr.sureAddr storeVar
  have hcs : v.cells = #[v] := by cases v <;> first | rfl | (simp [Value.oneCell'] at hv)
  have ha : ad.add 0 = ad := by simp [Addr.add]
  simp [hT w, hcs, storeCells, ha, run_store _ _ _ _ _ hv, hc, hf]
theorem ex_al {T : TypeId} (h : (Instr.alloc T true (.tuple #[])).run Tryz.prog w = .ok v w') : (execOp a.eval ⟨dd, .alloc T, ty, p, af, g⟩).run Tryz.prog w = .ok (.value v) w' := by
  simp only [execOp, Sem.run_bind, h, Result.andThen_ok, Sem.run_pure]
theorem ex_bx {T : TypeId} (hx : a.eval x = vx) (h : (Instr.box T vx).run Tryz.prog w = .ok v w') : (execOp a.eval ⟨dd, .box T x, ty, p, af, g⟩).run Tryz.prog w = .ok (.value v) w' := by
  simp only [execOp, hx, Sem.run_bind, h, Result.andThen_ok, Sem.run_pure]
theorem ex_bd {T : TypeId} {ps : Array (Nat × Operand)} {vs : Array (Nat × Value)} (hx : ps.map (fun (i, x) => (i, a.eval x)) = vs) (h : (Instr.build T vs).run Tryz.prog w = .ok v w') : (execOp a.eval ⟨dd, .build T ps, ty, p, af, g⟩).run Tryz.prog w = .ok (.value v) w' := by
  simp only [execOp, hx, Sem.run_bind, h, Result.andThen_ok, Sem.run_pure]
theorem ex_ms {T : TypeId} (hx : a.eval x = vx) (hy : a.eval y = vy) (h : (Instr.makeSlice T vx vy).run Tryz.prog w = .ok v w') : (execOp a.eval ⟨dd, .makeSlice T x y, ty, p, af, g⟩).run Tryz.prog w = .ok (.value v) w' := by
  simp only [execOp, hx, hy, Sem.run_bind, h, Result.andThen_ok, Sem.run_pure]
theorem ex_un {uo : UnOp} {T : TypeId} (hx : a.eval x = vx) (h : (Op.unary uo vx).run Tryz.prog w = .ok v w) : (execOp a.eval ⟨dd, .unOp uo T x, ty, p, af, g⟩).run Tryz.prog w = .ok (.value v) w := by
  simp only [execOp, hx, Sem.run_bind, h, Result.andThen_ok, Sem.run_pure]
theorem ex_bi {b : Builtin} {xs : Array Operand} {ats : Array TypeId} {args : Array Value} (hx : xs.map a.eval = args) (h : (builtin b ats ty (xs.map fun | .const _ => true | _ => false) args).run Tryz.prog w = .ok (.value v) w') : (execOp a.eval ⟨dd, .call ⟨.builtin b, xs, ats⟩, ty, p, af, g⟩).run Tryz.prog w = .ok (.value v) w' := by
  have e : execOp a.eval ⟨dd, .call ⟨.builtin b, xs, ats⟩, ty, p, af, g⟩ = builtin b ats ty (xs.map fun | .const _ => true | _ => false) (xs.map a.eval) := rfl
  rw [e, hx]; exact h
theorem ex_cl {xs : Array Operand} {ats : Array TypeId} {args : Array Value} (hf : CF f) (hx : xs.map a.eval = args) : (execOp a.eval ⟨dd, .call ⟨.value (.func f), xs, ats⟩, ty, p, af, g⟩).run Tryz.prog w = .ok (.enter f args) w := by
  rw [ex_call hf, hx]
theorem rg_list {id : Nat} {l : List Oper} {Q : Exit → Act → World → Prop} (h : wpList Tryz.prog l.toArray Q l a w) : (Code.region id l.toArray false).wp Tryz.prog Q a w := wp_region_lit h

theorem Blk.gk {k T g : Nat} {cs : Array Value} {w w' : World} (h : Blk w k T cs) (hb : w.grownBy w' (some g)) (hne : k ≠ g) : Blk w' k T cs := h.grown hb (fun e => hne (Option.some.inj e))
theorem Blk.gn {k T : Nat} {cs : Array Value} {w w' : World} (h : Blk w k T cs) (hb : w.grownBy w' none) : Blk w' k T cs := h.grown hb (fun e => by cases e)
theorem grown_set (w : World) (g o : Nat) (v : Value) : w.grownBy (w.setCell ⟨g, o, none⟩ v) (some g) := ⟨rfl, rfl, rfl, by simp [World.setCell], fun k _ hne => Below.heap_setCell _ _ _ _ (fun e => hne (by rw [e]))⟩
theorem grown_alloc (w : World) (o : Obj) : w.grownBy (w.alloc o) none := ⟨rfl, rfl, rfl, by simp, fun k hk _ => Below.heap_alloc _ _ _ hk⟩
theorem grown_refl (w : World) (r : Option Nat) : w.grownBy w r := ⟨rfl, rfl, rfl, Nat.le_refl _, fun _ _ _ => rfl⟩
theorem grown_trans {w w1 w2 : World} {r : Option Nat} (h : w.grownBy w1 r) (h1 : w1.grownBy w2 r) : w.grownBy w2 r := ⟨h1.os.trans h.os, h1.tape.trans h.tape, h1.output.trans h.output, Nat.le_trans h.size h1.size, fun k hk hne => (h1.block k (Nat.lt_of_lt_of_le hk h.size) hne).trans (h.block k hk hne)⟩
theorem grown_any {w w1 : World} {r : Option Nat} (h : w.grownBy w1 none) : w.grownBy w1 r := ⟨h.os, h.tape, h.output, h.size, fun k hk _ => h.block k hk (fun e => by cases e)⟩
theorem grown_below {w w1 : World} (h : w.grownBy w1 none) : Below w.heap.size w w1 := ⟨h.os, h.tape, h.output, h.size, fun k hk => h.block k hk (fun e => by cases e)⟩
theorem below_grown {w w1 : World} (h : Below w.heap.size w w1) : w.grownBy w1 none := ⟨h.os, h.tape, h.output, h.size, fun k hk _ => h.block k hk⟩
/-- a store of one cell into a block that is known whole -/
theorem st_run {T g U o : Nat} {cs cs' : Array Value} {w : World} {v : Value} (hT : SZ T) (h : Blk w g U cs) (hv : v.oneCell' = true) (ho : o < cs.size) (e : cs.setIfInBounds o v = cs') :
    ∃ w', (Instr.storeAt T (.pointer (some ⟨g, o, none⟩)) v).run Tryz.prog w = .ok () w' ∧ Blk w' g U cs' ∧ w.grownBy w' (some g) := by
  subst e
  exact ⟨_, store1 hT hv (old := cs[o]) ((h.cell o).trans (Array.getElem?_eq_getElem ho)) (h.frozen o), h.set_ o v, grown_set _ _ _ _⟩
/-- a new block -/
theorem al_run {w : World} {g : Nat} {op : Sem Value} {T : Nat} {cs : Array Value} (hg : w.heap.size = g) (h : ∀ w, op.run Tryz.prog w = .ok (.pointer (some ⟨w.heap.size, 0, none⟩)) (w.alloc (.cells cs T))) :
    ∃ w', op.run Tryz.prog w = .ok (.pointer (some ⟨g, 0, none⟩)) w' ∧ Blk w' g T cs ∧ w.grownBy w' none ∧ w'.heap.size = g + 1 := by
  subst hg
  exact ⟨_, h w, Blk.new rfl, grown_alloc _ _, by simp⟩
/-- a whole struct (or a row's element) is read -/
theorem ld_agg {T n g U o : Nat} {cs xs : Array Value} {w : World} (hA : ∀ w, (isAgg T : Sem Bool).run Tryz.prog w = .ok true w) (hS : ∀ w, (sizeOf T : Sem Nat).run Tryz.prog w = .ok n w) (h : Blk w g U cs) (hn : xs.size = n) (hx : ∀ j, j < n → cs[o + j]? = xs[j]?) :
    (Instr.loadAt T (.pointer (some ⟨g, o, none⟩))).run Tryz.prog w = .ok (.agg xs) w := by
  unfold Instr.loadAt Instr.sureAddr loadVar
  have hl := run_loadCells_list (P := Tryz.prog) (w := w) ⟨g, o, none⟩ xs.toList (fun j v hj => by
    rw [Lib.add_plain, h.cell]
    have hjn : j < n := by
      have := (List.getElem?_eq_some_iff.1 hj).1
      rw [Array.length_toList] at this; omega
    rw [hx j hjn]
    simpa using hj)
  have hl2 : (loadCells ⟨g, o, none⟩ n).run Tryz.prog w = .ok xs w := by
    rw [← hn, ← Array.length_toList]
    simpa using hl
  simp [hA w, hS w, hl2]
theorem ex_lda {a : Act} {w : World} {dd : Option Tmp} {x : Operand} {ty : TypeId} {p : String} {af : Array Edge} {g : Option (Nat × Bool)} {T : TypeId} {vx v : Value} (hx : a.eval x = vx) (h : (Instr.loadAt T vx).run Tryz.prog w = .ok v w) : (execOp a.eval ⟨dd, .load T x, ty, p, af, g⟩).run Tryz.prog w = .ok (.value v) w := by
  simp only [execOp, hx, Sem.run_bind, h, Result.andThen_ok, Sem.run_pure]
end

theorem sta_cells {g U : Nat} : ∀ (vs : List Value) (i : Nat) (cs0 : Array Value) (w : World), Blk w g U cs0 → i + vs.length ≤ cs0.size → (∀ v ∈ vs, v.oneCell' = true) →
    ∃ w' r, (storeCells ⟨g, 0, none⟩ vs i).run Tryz.prog w = .ok () w' ∧ Blk w' g U r ∧ w.grownBy w' (some g) ∧ r.size = cs0.size ∧ (∀ j, (j < i ∨ i + vs.length ≤ j) → r[j]? = cs0[j]?) ∧ ∀ j, j < vs.length → r[i + j]? = vs[j]?
  | [], i, cs0, w, h, _, _ => ⟨w, cs0, rfl, h, grown_refl _ _, rfl, fun _ _ => rfl, fun _ h => by simp at h⟩
  | v :: vs, i, cs0, w, h, hl, hv => by
    have hl' : i + (vs.length + 1) ≤ cs0.size := by simpa using hl
    have hi : i < cs0.size := by omega
    obtain ⟨w', r, h1, h2, h3, h4, h5, h6⟩ := sta_cells vs (i + 1) (cs0.setIfInBounds i v) (w.setCell ⟨g, i, none⟩ v) (h.set_ i v) (by simp; omega) (fun x hx => hv x (List.mem_cons_of_mem _ hx))
    refine ⟨w', r, ?_, h2, grown_trans (grown_set _ _ _ _) h3, by simpa using h4, fun j hj => ?_, fun j hj => ?_⟩
    · have hc : w.cell? ⟨g, i, none⟩ = some cs0[i] := (h.cell i).trans (Array.getElem?_eq_getElem hi)
      have ha : (⟨g, 0, none⟩ : Addr).add i = ⟨g, i, none⟩ := by rw [Lib.add_plain, Nat.zero_add]
      unfold storeCells
      simp only [Sem.run_bind, ha, run_store _ _ _ _ _ (hv v List.mem_cons_self), hc, h.frozen i, Bool.false_eq_true, if_false, Result.andThen_ok]
      exact h1
    · simp only [List.length_cons] at hj
      rw [h5 j (by omega), Array.getElem?_setIfInBounds_ne (by omega)]
    · cases j with
      | zero => rw [Nat.add_zero, h5 i (by omega)]; simp [hi]
      | succ j =>
        simp only [List.length_cons] at hj
        rw [show i + (j + 1) = i + 1 + j by omega, h6 j (by omega)]
        rfl
/-- a store of a whole struct -/
theorem sta_run {T n g U : Nat} {cs0 cs : Array Value} {w : World} (hS : ∀ w, (sizeOf T : Sem Nat).run Tryz.prog w = .ok n w) (h : Blk w g U cs0) (h0 : cs0.size = n) (hn : cs.size = n) (hv : ∀ v ∈ cs.toList, v.oneCell' = true) :
    ∃ w', (Instr.storeAt T (.pointer (some ⟨g, 0, none⟩)) (.agg cs)).run Tryz.prog w = .ok () w' ∧ Blk w' g U cs ∧ w.grownBy w' (some g) := by
  obtain ⟨w', r, h1, h2, h3, h4, h5, h6⟩ := sta_cells cs.toList 0 cs0 w h (by rw [Array.length_toList]; omega) hv
  have e : r = cs := by
    apply Array.ext_getElem?
    intro j
    by_cases hj : j < cs.toList.length
    · have := h6 j hj
      rw [Nat.zero_add] at this
      rw [this]; simp
    · rw [h5 j (Or.inr (by omega))]
      rw [Array.length_toList] at hj
      rw [Array.getElem?_eq_none (by omega), Array.getElem?_eq_none (by omega)]
  subst e
  refine ⟨w', ?_, h2, h3⟩
  unfold Instr.storeAt Instr.sureAddr storeVar
  have e2 : (Value.agg r).cells = r := rfl
  simp only [Sem.run_bind, Sem.run_pure, Result.andThen_ok, e2, hS w, hn, ne_eq, not_true_eq_false, if_false]
  exact h1

/-- an order of the indices serves: those of 'is' may be taken first, those of 'js' come up one at a time -/
def ordTail (ops : Array Oper) : List Nat → Array Bool → Bool
  | [], l => (Region.ready .any ops l).isEmpty
  | j :: js, l => Region.ready .any ops l == [j] && ordTail ops js (l.setIfInBounds j true)
def ordFrom (ops : Array Oper) (js : List Nat) : List Nat → Array Bool → Bool
  | [], l => ordTail ops js l
  | i :: is, l => (Region.ready .any ops l).contains i && Region.free .any ops l i && ordFrom ops js is (l.setIfInBounds i true)
def ordB (ops : Array Oper) (is js : List Nat) : Bool := Region.noSelect ops && ordFrom ops js is (Array.replicate ops.size false)
section
variable {ops : Array Oper} {S : World → Prop} {K : Act → World → Prop}
theorem ord_tail : ∀ (js : List Nat) (listed : Array Bool) (a : Act) (w : World), (∀ j ∈ js, j < ops.size) → ordTail ops js listed = true → wpTail ops S K (js.filterMap (ops[·]?)) a w →
    wpAnyH Tryz.prog .any ops (normalOnly K) S js.length listed a w
  | [], _, _, _, _, hB, h => ⟨by simpa [ordTail] using hB, h⟩
  | j :: js, listed, a, w, hjs, hB, h => by
    have hj := hjs j List.mem_cons_self
    have h0 : ops[j]? = some ops[j] := Array.getElem?_eq_getElem hj
    simp only [ordTail, Bool.and_eq_true] at hB
    obtain ⟨hr, hB'⟩ := hB
    rw [List.filterMap_cons_some h0] at h
    refine wpAnyH_all (rs := [j]) (by simpa using hr) (by simp) fun i hi => ?_
    obtain rfl : i = j := by simpa using hi
    unfold wpOp
    simp only [h0]
    rw [if_pos h.1]
    refine .inl (Oper.wp_mono (fun a' w' h' => ⟨h'.1, ?_⟩) h.2)
    exact ord_tail js _ _ _ (fun x hx => hjs x (List.mem_cons_of_mem _ hx)) hB' h'.2
theorem ord_head (hs : Region.noSelect ops = true) (js : List Nat) : ∀ (is : List Nat) (listed : Array Bool) (a : Act) (w : World), (∀ i ∈ is ++ js, i < ops.size) → ordFrom ops js is listed = true → S w →
    wpHead ops S (fun a' => wpTail ops S K (js.filterMap (ops[·]?)) a' w) (is.filterMap (ops[·]?)) a → wpAnyH Tryz.prog .any ops (normalOnly K) S (is ++ js).length listed a w
  | [], listed, a, w, hi, hB, _, h => ord_tail js listed a w hi hB h
  | i :: is, listed, a, w, hi, hB, hS, h => by
    have hii := hi i List.mem_cons_self
    have h0 : ops[i]? = some ops[i] := Array.getElem?_eq_getElem hii
    simp only [ordFrom, Bool.and_eq_true] at hB
    obtain ⟨⟨hr, hf⟩, hB'⟩ := hB
    rw [List.filterMap_cons_some h0] at h
    obtain ⟨v, hy, h⟩ := h
    refine wpAnyH_take h0 hs hf hr (fun _ _ _ h => h) hy hS ?_
    exact ord_head hs js is _ _ _ (fun x hx => hi x (List.mem_cons_of_mem _ hx)) hB' hS h
theorem rg_ord {id : Nat} {l : List Oper} {Q : Exit → Act → World → Prop} {a : Act} {w : World} (is js : List Nat) (hn : (is ++ js).length = l.length ∧ ∀ i ∈ is ++ js, i < l.length) (hm : Tryz.prog.follows .mixedOrders = true) (hB : ordB l.toArray is js = true) (hS : S w.drew)
    (h : wpHead l.toArray S (fun a' => wpTail l.toArray S (fun a' w' => Q .normal a' w') (js.filterMap (l.toArray[·]?)) a' w.drew) (is.filterMap (l.toArray[·]?)) a) : (Code.region id l.toArray true).wp Tryz.prog Q a w := by
  simp only [ordB, Bool.and_eq_true] at hB
  have := ord_head (ops := l.toArray) (S := S) (K := fun a' w' => Q .normal a' w') hB.1 js is (Array.replicate l.toArray.size false) a w.drew (by simpa using hn.2) hB.2 hS h
  rw [hn.1] at this
  refine Code.wp_mono ?_ (wp_region_held hm (S := S) (Q := normalOnly fun a' w' => Q .normal a' w') (by simpa using this))
  intro e a w h
  cases e <;> first | exact h | exact h.elim
end
theorem rg_still {id : Nat} {Q : Exit → Act → World → Prop} {a : Act} {w w1 : World} {l : List Oper} (hw : w1 = w.drew) (hm : Tryz.prog.follows .mixedOrders = true) (hB : Region.lexB .any l.toArray = true)
    (h : wpStill Tryz.prog l.toArray w1 (fun a' => Q .normal a' w1) l a) : (Code.region id l.toArray true).wp Tryz.prog Q a w := by
  subst hw; exact wp_region_still_lit hm hB h
theorem rg_stillt {id : Nat} {Q : Exit → Act → World → Prop} {a : Act} {w w1 : World} {l : List Oper} (n : Nat) (hw : w1 = w.drew) (hm : Tryz.prog.follows .mixedOrders = true) (hB : Region.lexTailB .any l.toArray n = true)
    (h : wpStill Tryz.prog l.toArray w1 (fun a' => wpList Tryz.prog l.toArray Q (l.drop n) a' w1) (l.take n) a) : (Code.region id l.toArray true).wp Tryz.prog Q a w := by
  subst hw; exact wp_region_still_tail n hm hB h
/-- all blocks but those of D are as they were -/
structure Kp (D : List Nat) (w w' : World) : Prop where
  os : w'.os = w.os
  tape : w'.tape = w.tape
  output : w'.output = w.output
  size : w.heap.size ≤ w'.heap.size
  block : ∀ k, k < w.heap.size → k ∉ D → w'.heap[k]? = w.heap[k]?
theorem Kp.refl (D : List Nat) (w : World) : Kp D w w := ⟨rfl, rfl, rfl, Nat.le_refl _, fun _ _ _ => rfl⟩
theorem Kp.new {D : List Nat} {w w1 w2 : World} (h : Kp D w w1) (hb : w1.grownBy w2 none) : Kp D w w2 :=
  ⟨hb.os.trans h.os, hb.tape.trans h.tape, hb.output.trans h.output, Nat.le_trans h.size hb.size, fun k hk hD => (hb.block k (Nat.lt_of_lt_of_le hk h.size) (fun e => by cases e)).trans (h.block k hk hD)⟩
theorem Kp.set {D : List Nat} {w w1 w2 : World} {g : Nat} (h : Kp D w w1) (hb : w1.grownBy w2 (some g)) (hg : g ∈ D ∨ w.heap.size ≤ g) : Kp D w w2 :=
  ⟨hb.os.trans h.os, hb.tape.trans h.tape, hb.output.trans h.output, Nat.le_trans h.size hb.size, fun k hk hD => (hb.block k (Nat.lt_of_lt_of_le hk h.size) (fun e => by
    obtain rfl := Option.some.inj e
    rcases hg with hg | hg
    · exact hD hg
    · omega)).trans (h.block k hk hD)⟩
theorem Kp.drew {D : List Nat} {w w1 : World} (h : Kp D w w1) : Kp D w w1.drew := ⟨h.os, h.tape, h.output, h.size, h.block⟩
theorem Kp.trans {D : List Nat} {w w1 w2 : World} (h : Kp D w w1) (h1 : Kp D w1 w2) : Kp D w w2 :=
  ⟨h1.os.trans h.os, h1.tape.trans h.tape, h1.output.trans h.output, Nat.le_trans h.size h1.size, fun k hk hD => (h1.block k (Nat.lt_of_lt_of_le hk h.size) hD).trans (h.block k hk hD)⟩
theorem Kp.below {w w1 : World} (h : Kp [] w w1) : Below w.heap.size w w1 := ⟨h.os, h.tape, h.output, h.size, fun k hk => h.block k hk (by simp)⟩
theorem Kp.grown {w w1 : World} (h : Kp [] w w1) : w.grownBy w1 none := ⟨h.os, h.tape, h.output, h.size, fun k hk _ => h.block k hk (by simp)⟩
theorem grown_drew (w : World) : w.grownBy w.drew none := ⟨rfl, rfl, rfl, Nat.le_refl _, fun _ _ _ => rfl⟩
theorem Blk.kp {D : List Nat} {k T : Nat} {cs : Array Value} {w w' : World} (h : Blk w k T cs) (hb : Kp D w w') (hk : k ∉ D) : Blk w' k T cs := (hb.block k h.lt hk).trans h

theorem arg1 {a : Act} {x1 : Operand} {v1 : Value} (h1 : a.eval x1 = v1) : (#[x1] : Array Operand).map a.eval = #[v1] := by simp only [List.map_toArray, List.map_cons, List.map_nil, h1]
theorem arg2 {a : Act} {x1 x2 : Operand} {v1 v2 : Value} (h1 : a.eval x1 = v1) (h2 : a.eval x2 = v2) : (#[x1, x2] : Array Operand).map a.eval = #[v1, v2] := by simp only [List.map_toArray, List.map_cons, List.map_nil, h1, h2]
theorem arg3 {a : Act} {x1 x2 x3 : Operand} {v1 v2 v3 : Value} (h1 : a.eval x1 = v1) (h2 : a.eval x2 = v2) (h3 : a.eval x3 = v3) : (#[x1, x2, x3] : Array Operand).map a.eval = #[v1, v2, v3] := by simp only [List.map_toArray, List.map_cons, List.map_nil, h1, h2, h3]
theorem arg4 {a : Act} {x1 x2 x3 x4 : Operand} {v1 v2 v3 v4 : Value} (h1 : a.eval x1 = v1) (h2 : a.eval x2 = v2) (h3 : a.eval x3 = v3) (h4 : a.eval x4 = v4) : (#[x1, x2, x3, x4] : Array Operand).map a.eval = #[v1, v2, v3, v4] := by simp only [List.map_toArray, List.map_cons, List.map_nil, h1, h2, h3, h4]
theorem fr_arg {args : Array Value} {n i : Nat} {v : Value} (h : args[i]? = some v) : (Act.mk (args ++ Array.replicate n undef) []).tmps.getD i undef = v := by
  have hi := (Array.getElem?_eq_some_iff.1 h).1
  show (args ++ Array.replicate n undef).getD i undef = v
  rw [Array.getD_eq_getD_getElem?, Array.getElem?_append_left hi, h]
  rfl
section
variable {a : Act} {w w' : World} {dd : Option Tmp} {ty : TypeId} {p : String} {af : Array Edge} {g : Option (Nat × Bool)} {x y : Operand} {vx vy v : Value}
theorem ex_fag {T f : Nat} (hx : a.eval x = vx) (h : (Instr.fieldAt T vx f).run Tryz.prog w = .ok v w) : (execOp a.eval ⟨dd, .fieldAddr T x f, ty, p, af, g⟩).run Tryz.prog w = .ok (.value v) w := by
  simp only [execOp, hx, Sem.run_bind, h, Result.andThen_ok, Sem.run_pure]
theorem ex_sl {T : TypeId} {lo hi mx : Option Operand} {vlo vhi vmx : Option Value} (hx : a.eval x = vx) (hlo : lo.map a.eval = vlo) (hhi : hi.map a.eval = vhi) (hmx : mx.map a.eval = vmx) (h : (Instr.sliceAt T vx vlo vhi vmx).run Tryz.prog w = .ok v w) : (execOp a.eval ⟨dd, .slice T x lo hi mx, ty, p, af, g⟩).run Tryz.prog w = .ok (.value v) w := by
  simp only [execOp, hx, hlo, hhi, hmx, Sem.run_bind, h, Result.andThen_ok, Sem.run_pure]
theorem ex_ixg {T : Nat} (hx : a.eval x = vx) (hy : a.eval y = vy) (h : (Instr.indexAt T vx vy).run Tryz.prog w = .ok v w) : (execOp a.eval ⟨dd, .indexAddr T x y, ty, p, af, g⟩).run Tryz.prog w = .ok (.value v) w := by
  simp only [execOp, hx, hy, Sem.run_bind, h, Result.andThen_ok, Sem.run_pure]
/-- short forms, for the packed walks -/
theorem ex_fb {T f b : Nat} (k : Nat) (h : a.eval x = .pointer (some ⟨b, 0, none⟩)) (hf : FA T f k := by intro _ _; kernel_rfl) : (execOp a.eval ⟨dd, .fieldAddr T x f, ty, p, af, g⟩).run Tryz.prog w = .ok (.value (.pointer (some ⟨b, k, none⟩))) w := ex_fa hf h
theorem ex_le {L : Nat} {ad : Addr} (h : a.eval x = .pointer (some ad)) (hc : w.cell? ad = some v) (hl : LD L := by intro _; kernel_rfl) : (execOp a.eval ⟨dd, .load L x, ty, p, af, g⟩).run Tryz.prog w = .ok (.value v) w := ex_ld hl h hc
end
theorem Pt.w {d t : Nat} {a a' : Act} {v : Value} (u : Pt d a a') (h : a.tmps.getD t undef = v) (ht : t ≠ d := by decide) : a'.tmps.getD t undef = v := u.v t h ht
theorem Fz.l {N d : Nat} {a : Act} (F : Fz N a) (h : d < N := by decide) : d < a.tmps.size := by rw [F.size]; exact h
end Go.Proofs.YtlphcidpaidclaaGreatDoor
