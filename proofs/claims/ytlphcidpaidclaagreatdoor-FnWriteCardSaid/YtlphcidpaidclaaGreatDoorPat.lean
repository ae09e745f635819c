/-
  Statements of a walk over a frame that is not written out: reading a field along a path, writing into the buffer, tests.
-/
import Derived.Test.YtlphcidpaidclaaGreatDoorFmt
import Derived.Test.YtlphcidpaidclaaGreatDoorFlo
import Derived.StillTailTactics
import Derived.Outline
namespace Go.Proofs.YtlphcidpaidclaaGreatDoor
open Go.RowKit

/-- the slots below lo stand as they stood -/
structure Up (lo : Nat) (a a' : Act) : Prop where
  size : a'.tmps.size = a.tmps.size
  defers : a'.defers = a.defers
  low : ∀ t, t < lo → a'.tmps.getD t undef = a.tmps.getD t undef

theorem Up.refl (lo : Nat) (a : Act) : Up lo a a := ⟨rfl, rfl, fun _ _ => rfl⟩
theorem Up.trans {lo lo1 : Nat} {a a1 a2 : Act} (h : Up lo a a1) (h1 : Up lo1 a1 a2) (hl : lo ≤ lo1) : Up lo a a2 :=
  ⟨h1.size.trans h.size, h1.defers.trans h.defers, fun t ht => (h1.low t (by omega)).trans (h.low t ht)⟩
theorem Up.down {lo lo1 : Nat} {a a' : Act} (h : Up lo a a') (hl : lo1 ≤ lo) : Up lo1 a a' := ⟨h.size, h.defers, fun t ht => h.low t (by omega)⟩
theorem Up.put {lo d : Nat} (a : Act) (v : Value) (hd : lo ≤ d) : Up lo a (a.put (some d) v) :=
  ⟨by simp [Act.put], rfl, fun t ht => by
    have : d ≠ t := by omega
    simp [Act.put, this]⟩
theorem put_get {d : Nat} {a : Act} (v : Value) (hd : d < a.tmps.size) : (a.put (some d) v).tmps.getD d undef = v := by
  simp [Act.put, hd]
theorem put_size {d : Nat} {a : Act} {v : Value} : (a.put (some d) v).tmps.size = a.tmps.size := by simp [Act.put]
theorem put_other {d t : Nat} {a : Act} {v : Value} (h : d ≠ t) : (a.put (some d) v).tmps.getD t undef = a.tmps.getD t undef := by
  simp [Act.put, h]

/-- the address of a field -/
def FA (T f o : Nat) : Prop := ∀ (b : Nat) (w : World), (Instr.fieldAt T (.pointer (some ⟨b, 0, none⟩)) f).run Tryz.prog w = .ok (.pointer (some ⟨b, o, none⟩)) w
/-- a function with a body -/
def CF (f : FuncId) : Prop := ∀ (args : Array Value) (w : World), (callFunc f args).run Tryz.prog w = .ok (.enter f args) w
/-- a type of one cell -/
def LD (L : Nat) : Prop := ∀ (w : World), (isAgg L : Sem Bool).run Tryz.prog w = .ok false w
theorem LD.run {L : Nat} {w : World} {p : Addr} {v : Value} (h : LD L) (hc : w.cell? p = some v) : (Instr.loadAt L (.pointer (some p))).run Tryz.prog w = .ok v w := by
  unfold Instr.loadAt Instr.sureAddr loadVar; simp [h w, hc]

section
variable {ops : Array Oper} {Q : Act → Prop} {QL : Exit → Act → World → Prop} {a : Act} {w w' : World} {rest l : List Oper} {o : Oper} {v : Value}

theorem st_val (hg : o.guard = none) (hrun : (execOp a.eval o).run Tryz.prog w = .ok (.value v) w) (hK : wpStill Tryz.prog ops w Q rest (a.put o.dst v)) : wpStill Tryz.prog ops w Q (o :: rest) a := by
  unfold wpStill
  rw [if_pos (by simp [Region.wanted, hg])]
  unfold Oper.still
  rw [hrun]
  exact ⟨rfl, hK⟩
theorem st_call {f : FuncId} {args : Array Value} (hg : o.guard = none) (hrun : (execOp a.eval o).run Tryz.prog w = .ok (.enter f args) w) (hC : Calls Tryz.prog f args w fun e w'' => e = .returned v ∧ w'' = w)
    (hK : wpStill Tryz.prog ops w Q rest (a.put o.dst v)) : wpStill Tryz.prog ops w Q (o :: rest) a := by
  unfold wpStill
  rw [if_pos (by simp [Region.wanted, hg])]
  unfold Oper.still
  rw [hrun]
  exact ⟨rfl, v, hC, hK⟩
theorem wl_val (hg : o.guard = none) (hrun : (execOp a.eval o).run Tryz.prog w = .ok (.value v) w') (hK : wpList Tryz.prog ops QL rest (a.put o.dst v) w') : wpList Tryz.prog ops QL (o :: rest) a w := by
  refine wpList_plain hg fun K hk => ?_
  unfold Oper.wp
  rw [hrun]
  exact hk _ _ hK
theorem wl_call {f : FuncId} {args : Array Value} {R : Value → World → Prop} (hg : o.guard = none) (hrun : (execOp a.eval o).run Tryz.prog w = .ok (.enter f args) w) (hC : Calls Tryz.prog f args w fun e w'' => ∃ v, e = .returned v ∧ R v w'')
    (hK : ∀ v w'', R v w'' → wpList Tryz.prog ops QL rest (a.put o.dst v) w'') : wpList Tryz.prog ops QL (o :: rest) a w := by
  refine wpList_plain hg fun K hk => ?_
  unfold Oper.wp
  rw [hrun]
  refine hC.mono ?_
  rintro e w'' ⟨v, rfl, hR⟩
  exact hk _ _ (hK v w'' hR)
theorem wl_of_st (l : List Oper) : ∀ {a : Act}, wpStill Tryz.prog ops w (fun a' => wpList Tryz.prog ops QL rest a' w) l a → wpList Tryz.prog ops QL (l ++ rest) a w := by
  induction l with
  | nil => exact fun h => h
  | cons o l ih =>
    intro a h
    unfold wpStill at h
    refine wpList_step fun K hK => ?_
    split at h
    · rename_i hw
      rw [if_pos hw]
      unfold Oper.still Oper.stillUpon at h
      unfold Oper.wp Oper.upon
      split at h
      · rename_i v w1 hr
        obtain ⟨rfl, h⟩ := h
        rw [hr]
        exact hK _ _ (ih h)
      · rename_i w1 hr
        obtain ⟨rfl, h⟩ := h
        rw [hr]
        exact hK _ _ (ih h)
      · rename_i f args w1 hr
        obtain ⟨rfl, v, hC, h⟩ := h
        rw [hr]
        refine hC.mono ?_
        rintro e w2 ⟨rfl, rfl⟩
        exact hK _ _ (ih h)
      · exact h.elim
    · rename_i hw
      rw [if_neg hw]
      exact hK _ _ (ih h)
theorem rg_plain {id : Nat} {l : List Oper} (n : Nat) (h : wpStill Tryz.prog l.toArray w (fun a' => wpList Tryz.prog l.toArray QL (l.drop n) a' w) (l.take n) a) : (Code.region id l.toArray false).wp Tryz.prog QL a w := by
  refine wp_region_lit ?_
  have := wl_of_st _ h
  rwa [List.take_append_drop] at this

theorem st_v {d : Tmp} {op : Op} {ty : TypeId} {p : String} {af : Array Edge} (hrun : (execOp a.eval ⟨some d, op, ty, p, af, none⟩).run Tryz.prog w = .ok (.value v) w) (hK : wpStill Tryz.prog ops w Q rest (a.put (some d) v)) :
    wpStill Tryz.prog ops w Q (⟨some d, op, ty, p, af, none⟩ :: rest) a := st_val rfl hrun hK
theorem st_c {d : Tmp} {op : Op} {ty : TypeId} {p : String} {af : Array Edge} {f : FuncId} {args : Array Value} (hrun : (execOp a.eval ⟨some d, op, ty, p, af, none⟩).run Tryz.prog w = .ok (.enter f args) w) (hC : Calls Tryz.prog f args w fun e w'' => e = .returned v ∧ w'' = w)
    (hK : wpStill Tryz.prog ops w Q rest (a.put (some d) v)) : wpStill Tryz.prog ops w Q (⟨some d, op, ty, p, af, none⟩ :: rest) a := st_call rfl hrun hC hK
theorem wl_v {d : Tmp} {op : Op} {ty : TypeId} {p : String} {af : Array Edge} (hrun : (execOp a.eval ⟨some d, op, ty, p, af, none⟩).run Tryz.prog w = .ok (.value v) w') (hK : wpList Tryz.prog ops QL rest (a.put (some d) v) w') :
    wpList Tryz.prog ops QL (⟨some d, op, ty, p, af, none⟩ :: rest) a w := wl_val rfl hrun hK
theorem wl_c {d : Tmp} {op : Op} {ty : TypeId} {p : String} {af : Array Edge} {f : FuncId} {args : Array Value} {R : Value → World → Prop} (hrun : (execOp a.eval ⟨some d, op, ty, p, af, none⟩).run Tryz.prog w = .ok (.enter f args) w) (hC : Calls Tryz.prog f args w fun e w'' => ∃ v, e = .returned v ∧ R v w'')
    (hK : ∀ v w'', R v w'' → wpList Tryz.prog ops QL rest (a.put (some d) v) w'') : wpList Tryz.prog ops QL (⟨some d, op, ty, p, af, none⟩ :: rest) a w := wl_call rfl hrun hC hK

theorem ex_move {d : Option Tmp} {x : Operand} {ty : TypeId} {p : String} {af : Array Edge} {g : Option (Nat × Bool)} : (execOp a.eval ⟨d, .move x, ty, p, af, g⟩).run Tryz.prog w = .ok (.value (a.eval x)) w := rfl
theorem ex_assign {d : Option Tmp} {x : Operand} {ty : TypeId} {p : String} {af : Array Edge} {g : Option (Nat × Bool)} : (execOp a.eval ⟨d, .assign x, ty, p, af, g⟩).run Tryz.prog w = .ok (.value (a.eval x)) w := rfl
theorem ex_nil {d : Option Tmp} {x : Operand} {ty : TypeId} {p : String} {af : Array Edge} {g : Option (Nat × Bool)} {ad : Addr} (h : a.eval x = .pointer (some ad)) : (execOp a.eval ⟨d, .nilCheck x, ty, p, af, g⟩).run Tryz.prog w = .ok (.value (.pointer (some ad))) w := by
  simp only [execOp, h]; rfl
theorem ex_fa {d : Option Tmp} {x : Operand} {ty : TypeId} {p : String} {af : Array Edge} {g : Option (Nat × Bool)} {T f k b : Nat} (hf : FA T f k) (h : a.eval x = .pointer (some ⟨b, 0, none⟩)) : (execOp a.eval ⟨d, .fieldAddr T x f, ty, p, af, g⟩).run Tryz.prog w = .ok (.value (.pointer (some ⟨b, k, none⟩))) w := by
  simp only [execOp, h, Sem.run_bind, hf b w, Result.andThen_ok, Sem.run_pure]
theorem ex_ld {d : Option Tmp} {x : Operand} {ty : TypeId} {p : String} {af : Array Edge} {g : Option (Nat × Bool)} {L : Nat} {ad : Addr} (hl : LD L) (h : a.eval x = .pointer (some ad)) (hc : w.cell? ad = some v) : (execOp a.eval ⟨d, .load L x, ty, p, af, g⟩).run Tryz.prog w = .ok (.value v) w := by
  simp only [execOp, h, Sem.run_bind, hl.run hc, Result.andThen_ok, Sem.run_pure]
theorem ex_call {d : Option Tmp} {f : FuncId} {xs : Array Operand} {ats : Array TypeId} {ty : TypeId} {p : String} {af : Array Edge} {g : Option (Nat × Bool)} (hf : CF f) : (execOp a.eval ⟨d, .call ⟨.value (.func f), xs, ats⟩, ty, p, af, g⟩).run Tryz.prog w = .ok (.enter f (xs.map a.eval)) w := by
  simp [go_sem]
  exact hf _ _
end
theorem cf46 : CF 46 := fun _ _ => by kernel_rfl
theorem ld5 : LD 5 := fun _ => by kernel_rfl
end Go.Proofs.YtlphcidpaidclaaGreatDoor
