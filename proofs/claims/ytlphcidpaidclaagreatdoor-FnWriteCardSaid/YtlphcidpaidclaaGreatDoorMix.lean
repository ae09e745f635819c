/-
  A region that draws its order: operations that yield their values in every world of a kind may be taken first, in the order of the text; those behind them come up one at a time.
-/
import Derived.Test.YtlphcidpaidclaaGreatDoorPat
import Derived.OrdersHeld
namespace Go.Proofs.YtlphcidpaidclaaGreatDoor
open Go.RowKit

/-- the order of the text serves: the first n may be taken first, each of the others comes up alone -/
def mixFrom (ops : Array Oper) (n : Nat) : Nat → Nat → Array Bool → Bool
  | 0, _, listed => (Region.ready .any ops listed).isEmpty
  | fuel + 1, k, listed => (if k < n then (Region.ready .any ops listed).contains k && Region.free .any ops listed k else Region.ready .any ops listed == [k]) && mixFrom ops n fuel (k + 1) (listed.setIfInBounds k true)
def mixB (ops : Array Oper) (n : Nat) : Bool := Region.noSelect ops && mixFrom ops n ops.size 0 (Array.replicate ops.size false)

section
variable {ops : Array Oper} {S : World → Prop} {K : Act → World → Prop}
/-- the operations taken first -/
def wpHead (ops : Array Oper) (S : World → Prop) (K : Act → Prop) : List Oper → Act → Prop
  | [], a => K a
  | o :: rest, a => ∃ v, YieldsIf Tryz.prog ops S o v a ∧ wpHead ops S K rest (a.put o.dst v)
/-- what holds where the region ends as it should -/
def normalOnly (K : Act → World → Prop) : Exit → Act → World → Prop
  | .normal, a, w => K a w
  | _, _, _ => False
/-- the operations that come up one at a time -/
def wpTail (ops : Array Oper) (S : World → Prop) (K : Act → World → Prop) : List Oper → Act → World → Prop
  | [], a, w => K a w
  | o :: rest, a, w => Region.wanted o (yielded ops a.tmps) = true ∧ o.wp Tryz.prog a w (fun a' w' => S w' ∧ wpTail ops S K rest a' w') (normalOnly K)

theorem mix_tail (hsz : Nat) : ∀ (l : List Oper) (k : Nat) (listed : Array Bool) (a : Act) (w : World), hsz ≤ k → (∀ j, l[j]? = ops[k + j]?) → mixFrom ops hsz l.length k listed = true → wpTail ops S K l a w →
    wpAnyH Tryz.prog .any ops (normalOnly K) S l.length listed a w
  | [], _, _, _, _, _, _, hB, h => ⟨by simpa [mixFrom] using hB, h⟩
  | o :: l, k, listed, a, w, hk, hl, hB, h => by
    have h0 : ops[k]? = some o := by simpa using (hl 0).symm
    simp only [List.length_cons, mixFrom, Bool.and_eq_true] at hB
    rw [if_neg (by omega)] at hB
    obtain ⟨hr, hB'⟩ := hB
    refine wpAnyH_all (rs := [k]) (by simpa using hr) (by simp) fun i hi => ?_
    obtain rfl : i = k := by simpa using hi
    unfold wpOp
    simp only [h0]
    rw [if_pos h.1]
    refine .inl (Oper.wp_mono (fun a' w' h' => ⟨h'.1, ?_⟩) h.2)
    exact mix_tail hsz l (i + 1) _ _ _ (by omega) (fun j => by have := hl (j + 1); simpa [Nat.add_assoc, Nat.add_comm 1 j] using this) hB' h'.2
theorem mix_head (n : Nat) (hs : Region.noSelect ops = true) : ∀ (l r : List Oper) (k : Nat) (listed : Array Bool) (a : Act) (w : World), k + l.length = n → (∀ j, (l ++ r)[j]? = ops[k + j]?) → mixFrom ops n (l ++ r).length k listed = true → S w →
    wpHead ops S (fun a' => wpTail ops S K r a' w) l a → wpAnyH Tryz.prog .any ops (normalOnly K) S (l ++ r).length listed a w
  | [], r, k, listed, a, w, hk, hl, hB, _, h => mix_tail n r k listed a w (by simp at hk; omega) hl hB h
  | o :: l, r, k, listed, a, w, hk, hl, hB, hS, h => by
    have h0 : ops[k]? = some o := by simpa using (hl 0).symm
    simp only [List.length_cons, List.cons_append, mixFrom, Bool.and_eq_true] at hB hk
    rw [if_pos (by omega)] at hB
    simp only [Bool.and_eq_true] at hB
    obtain ⟨⟨hr, hf⟩, hB'⟩ := hB
    obtain ⟨v, hy, h⟩ := h
    refine wpAnyH_take h0 hs hf hr (fun _ _ _ h => h) hy hS ?_
    exact mix_head n hs l r (k + 1) _ _ _ (by omega) (fun j => by have := hl (j + 1); simpa [Nat.add_assoc, Nat.add_comm 1 j] using this) hB' hS h
theorem rg_mix {id : Nat} {l : List Oper} {Q : Exit → Act → World → Prop} {a : Act} {w : World} (n : Nat) (hn : n ≤ l.length) (hm : Tryz.prog.follows .mixedOrders = true) (hB : mixB l.toArray n = true) (hS : S w.drew)
    (h : wpHead l.toArray S (fun a' => wpTail l.toArray S (fun a' w' => Q .normal a' w') (l.drop n) a' w.drew) (l.take n) a) : (Code.region id l.toArray true).wp Tryz.prog Q a w := by
  simp only [mixB, Bool.and_eq_true] at hB
  have e : l.take n ++ l.drop n = l := List.take_append_drop n l
  have hl : (l.take n).length = n := by rw [List.length_take]; omega
  have := mix_head (ops := l.toArray) (S := S) (K := fun a' w' => Q .normal a' w') n hB.1 (l.take n) (l.drop n) 0 (Array.replicate l.toArray.size false) a w.drew (by omega) (fun j => by rw [e]; simp) (by rw [e]; exact hB.2) hS h
  rw [e] at this
  refine Code.wp_mono ?_ (wp_region_held hm (S := S) (Q := normalOnly fun a' w' => Q .normal a' w') (by simpa using this))
  intro e a w h
  cases e <;> first | exact h | exact h.elim

variable {a : Act} {w : World} {rest : List Oper} {KH : Act → Prop} {d : Tmp} {op : Op} {ty : TypeId} {p : String} {af : Array Edge} {v : Value}
theorem mh_v (hrun : ∀ w, S w → (execOp a.eval ⟨some d, op, ty, p, af, none⟩).run Tryz.prog w = .ok (.value v) w) (hK : wpHead ops S KH rest (a.put (some d) v)) : wpHead ops S KH (⟨some d, op, ty, p, af, none⟩ :: rest) a :=
  ⟨v, .inl ⟨by simp [Region.wanted], hrun⟩, hK⟩
theorem mt_c {f : FuncId} {args : Array Value} {R : Value → World → Prop} (hrun : (execOp a.eval ⟨some d, op, ty, p, af, none⟩).run Tryz.prog w = .ok (.enter f args) w) (hC : Calls Tryz.prog f args w fun e w'' => ∃ v, e = .returned v ∧ R v w'')
    (hK : ∀ v w'', R v w'' → S w'' ∧ wpTail ops S K rest (a.put (some d) v) w'') : wpTail ops S K (⟨some d, op, ty, p, af, none⟩ :: rest) a w := by
  refine ⟨by simp [Region.wanted], ?_⟩
  unfold Oper.wp
  rw [hrun]
  refine hC.mono ?_
  rintro e w'' ⟨v, rfl, hR⟩
  exact hK v w'' hR
theorem mt_v {w' : World} (hrun : (execOp a.eval ⟨some d, op, ty, p, af, none⟩).run Tryz.prog w = .ok (.value v) w') (hK : S w' ∧ wpTail ops S K rest (a.put (some d) v) w') : wpTail ops S K (⟨some d, op, ty, p, af, none⟩ :: rest) a w := by
  refine ⟨by simp [Region.wanted], ?_⟩
  unfold Oper.wp
  rw [hrun]
  exact hK
end
end Go.Proofs.YtlphcidpaidclaaGreatDoor
