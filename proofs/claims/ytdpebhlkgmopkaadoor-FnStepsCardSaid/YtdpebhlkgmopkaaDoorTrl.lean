/-
 A region that draws its order, one of whose stores waits for all loads: what holds of the world is asked only until that store.
-/
import Derived.Test.YtdpebhlkgmopkaaDoorWin
namespace Go.Proofs.YtdpebhlkgmopkaaDoor
open Go.RowKit
set_option maxRecDepth 100000
/-- whatever order is picked; S0 holds until operation s0 has come up -/
def wpAnyL (ops : Array Oper) (Q : Exit → Act → World → Prop) (s0 : Nat) (S0 : World → Prop) : Nat → Array Bool → Act → World → Prop
 | 0, l, a, w => Region.ready .any ops l = [] ∧ Q .normal a w
 | n + 1, l, a, w => (Region.ready .any ops l = [] → Q .normal a w) ∧
   ∀ i ∈ Region.ready .any ops l, wpOp Tryd.prog ops Q i (fun a' w' => ((l.setIfInBounds i true).getD s0 false = false → S0 w') ∧ wpAnyL ops Q s0 S0 n (l.setIfInBounds i true) a' w') a w
section
variable {ops : Array Oper} {Q : Exit → Act → World → Prop} {s0 : Nat} {S0 S1 : World → Prop}
theorem wpAny_of_L : ∀ (n : Nat) (l : Array Bool) (a : Act) (w : World), wpAnyL ops Q s0 S0 n l a w → wpAny Tryd.prog .any ops Q n l a w
 | 0, _, _, _, h => h
 | n + 1, _, _, _, h => ⟨h.1, fun i hi => wpOp_mono (fun a' w' h' => wpAny_of_L n _ a' w' h'.2) (h.2 i hi)⟩
/-- does operation s0 wait for operation i? -/
def waits (ops : Array Oper) (s0 i : Nat) : Bool := match ops[s0]? with
 | some o => o.after.any fun e => Region.binds .any e && e.on == i
 | none => false
theorem getD_set_ne' {l : Array Bool} {i j : Nat} (d : Bool) (h : i ≠ j) : (l.setIfInBounds i true).getD j d = l.getD j d := getD_set_ne d h
theorem wpAnyL_first {i : Nat} {oi : Oper} {v : Value} (hi : ops[i]? = some oi) (hsel : ∀ (j : Nat) (o : Oper) cs b, ops[j]? = some o → o.op ≠ .select cs b)
   (hQ : ∀ c a w, Q (.panic c) (a.put oi.dst v) w → Q (.panic c) a w) (hne : s0 ≠ i) (h0 : (∀ w, S1 w) ∨ (S1 = S0 ∧ waits ops s0 i = true)) :
   ∀ (n : Nat) (l : Array Bool) (a : Act) (w : World),
     (∀ j oj, ops[j]? = some oj → j ≠ i → l.getD j true = false → (∀ e ∈ oj.after, Region.binds .any e = true → e.on ≠ i) → oi.apart ops oj = true) →
     i ∈ Region.ready .any ops l → YieldsIf Tryd.prog ops S1 oi v a → ((∀ w, S1 w) ∨ l.getD s0 false = false) → (l.getD s0 false = false → S0 w) →
     wpAnyL ops Q s0 S0 n (l.setIfInBounds i true) (a.put oi.dst v) w → wpAnyL ops Q s0 S0 (n + 1) l a w := by
 intro n
 induction n with
 | zero =>
   intro l a w _ hr hy hl hS H
   have hS1 : S1 w := by
     rcases h0 with h0 | ⟨rfl, _⟩
     · exact h0 w
     · rcases hl with hl | hl
       · exact hl w
       · exact hS hl
   refine ⟨fun h => (by rw [h] at hr; cases hr), fun j hj => ?_⟩
   by_cases hji : j = i
   · subst hji; exact hy.wpOp hi hS1 ⟨fun h => hS ((getD_set_ne' false (Ne.symm hne)).symm.trans h), H⟩
   · have := ready_mono hj hji
     rw [H.1] at this
     cases this
 | succ n ih =>
   intro l a w hfree hr hy hl hS H
   have hS1 : S1 w := by
     rcases h0 with h0 | ⟨rfl, _⟩
     · exact h0 w
     · rcases hl with hl | hl
       · exact hl w
       · exact hS hl
   refine ⟨fun h => (by rw [h] at hr; cases hr), fun j hj => ?_⟩
   by_cases hji : j = i
   · subst hji; exact hy.wpOp hi hS1 ⟨fun h => hS ((getD_set_ne' false (Ne.symm hne)).symm.trans h), H⟩
   · have h1 := H.2 j (ready_mono hj hji)
     obtain ⟨hjun, oj, hoj, hall⟩ := mem_ready.1 hj
     have hnot : ∀ e ∈ oj.after, Region.binds .any e = true → e.on ≠ i := fun e he hb heq => by
       have h1 := hall e he hb
       have h0 := (mem_ready.1 hr).1
       rw [heq] at h1
       rcases Nat.lt_or_ge i l.size with h' | h'
       · simp [h'] at h0 h1; rw [h0] at h1; cases h1
       · simp [Array.getElem?_eq_none h'] at h1
     have h2 := wpOp_putIf hoj (hfree j oj hoj hji hjun hnot) (fun cs b => hsel i oi cs b hi) (fun cs b => hsel j oj cs b hoj) hQ hy h1
     have hfree' : ∀ k ok, ops[k]? = some ok → k ≠ i → (l.setIfInBounds j true).getD k true = false →
         (∀ e ∈ ok.after, Region.binds .any e = true → e.on ≠ i) → oi.apart ops ok = true := fun k ok hk hki hun hno => by
       refine hfree k ok hk hki ?_ hno
       by_cases hjk : j = k
       · subst hjk; exact hjun
       · rw [getD_set_ne true hjk] at hun; exact hun
     have hl' : (∀ w, S1 w) ∨ (l.setIfInBounds j true).getD s0 false = false := by
       rcases hl with hl | hl
       · exact .inl hl
       · rcases h0 with h0 | ⟨_, hw⟩
         · exact .inl h0
         · refine .inr ?_
           rw [getD_set_ne' false (fun e => ?_)]
           · exact hl
           · subst e
             unfold waits at hw
             rw [hoj] at hw
             obtain ⟨k, hk, hb⟩ := Array.any_eq_true.1 hw
             simp only [Bool.and_eq_true, beq_iff_eq] at hb
             exact hnot _ (Array.getElem_mem hk) hb.1 hb.2
     have hE : ((l.setIfInBounds i true).setIfInBounds j true).getD s0 false = (l.setIfInBounds j true).getD s0 false := by
       rw [Array.setIfInBounds_comm _ _ (Ne.symm hji), getD_set_ne' false (Ne.symm hne)]
     refine wpOp_mono (fun a' w' h3 => ⟨fun h => h3.2.1 (hE.trans h), ih (l.setIfInBounds j true) a' w' hfree' (ready_mono hr (Ne.symm hji)) h3.1 hl' (fun h => h3.2.1 (hE.trans h)) ?_⟩) h2
     rw [Array.setIfInBounds_comm _ _ hji]
     exact h3.2.2
end
section
variable {ops : Array Oper} {S0 : World → Prop} {K : Act → World → Prop} {a : Act} {w w' : World} {n j s0 : Nat} {l : Array Bool} {v : Value} {d : Tmp} {op : Op} {ty : TypeId} {p : String} {af : Array Edge} {f : FuncId} {args : Array Value} {R : Value → World → Prop}
def LTree (ops : Array Oper) (s0 : Nat) (S0 : World → Prop) (K : Act → World → Prop) (n : Nat) (l : Array Bool) (a : Act) (w : World) : Prop := wpAnyL ops (normalOnly K) s0 S0 n l a w
theorem rg_ltree {id : Nat} {ol : List Oper} {Q : Exit → Act → World → Prop} {w1 : World} (s0 n : Nat) (S0 : World → Prop) (hw : w1 = w.drew) (hm : Tryd.prog.follows .mixedOrders = true) (hn : n = ol.toArray.size)
   (h : LTree ol.toArray s0 S0 (fun a' w' => Q .normal a' w') n (Array.replicate n false) a w1) : (Code.region id ol.toArray true).wp Tryd.prog Q a w := by
 subst hw hn
 refine Code.wp_mono ?_ (wp_region_any hm (Q := normalOnly fun a' w' => Q .normal a' w') (wpAny_of_L _ _ _ _ h))
 intro e a w h
 cases e <;> first | exact h | exact h.elim
def TKL (ops : Array Oper) (s0 : Nat) (S0 : World → Prop) (K : Act → World → Prop) (n j : Nat) (l : Array Bool) (a : Act) (w : World) : Prop :=
 wpOp Tryd.prog ops (normalOnly K) j (fun a' w' => ((l.setIfInBounds j true).getD s0 false = false → S0 w') ∧ wpAnyL ops (normalOnly K) s0 S0 n (l.setIfInBounds j true) a' w') a w
theorem ltree1 (hr : Region.ready .any ops l = [j]) (h : TKL ops s0 S0 K n j l a w) : LTree ops s0 S0 K (n + 1) l a w :=
 ⟨fun h0 => (by rw [hr] at h0; cases h0), fun i hi => by rw [hr] at hi; obtain rfl : i = j := by simpa using hi
                                                         exact h⟩
theorem ltree2 {k : Nat} (hr : Region.ready .any ops l = [j, k]) (h : TKL ops s0 S0 K n j l a w) (h2 : TKL ops s0 S0 K n k l a w) : LTree ops s0 S0 K (n + 1) l a w :=
 ⟨fun h0 => (by rw [hr] at h0; cases h0), fun i hi => by
   rw [hr] at hi
   rcases List.mem_cons.1 hi with rfl | hi
   · exact h
   · obtain rfl : i = k := by simpa using hi
     exact h2⟩
theorem ltree0 (hr : Region.ready .any ops l = []) (h : K a w) : LTree ops s0 S0 K n l a w := by
 cases n with
 | zero => exact ⟨hr, h⟩
 | succ n => exact ⟨fun _ => h, fun i hi => by rw [hr] at hi; cases hi⟩
/-- taken first: a load, of what holds until s0 -/
theorem ltree_take (h0 : ops[j]? = some ⟨some d, op, ty, p, af, none⟩) (hs : Region.noSelect ops = true) (hf : Region.free .any ops l j = true) (hr : (Region.ready .any ops l).contains j = true) (hw0 : waits ops s0 j = true) (hne : s0 ≠ j) (hl : l.getD s0 false = false) (hrun : ∀ w, S0 w → (execOp a.eval ⟨some d, op, ty, p, af, none⟩).run Tryd.prog w = .ok (.value v) w) (hS : S0 w) (hsz : d < a.tmps.size)
   (hK : ∀ a', Pt d a a' → a'.tmps.getD d undef = v → LTree ops s0 S0 K n (l.setIfInBounds j true) a' w) : LTree ops s0 S0 K (n + 1) l a w :=
 wpAnyL_first (S1 := S0) h0 (Region.noSelect_spec hs) (fun _ _ _ h => h) hne (.inr ⟨rfl, hw0⟩) n l a w (Region.free_spec h0 hf) (by simpa using hr) (.inl ⟨by simp [Region.wanted], hrun⟩) (.inr hl) (fun _ => hS) (hK _ (Pt.put _ _ _) (put_get _ hsz))
/-- taken first: what hangs on no world -/
theorem ltree_free (h0 : ops[j]? = some ⟨some d, op, ty, p, af, none⟩) (hs : Region.noSelect ops = true) (hf : Region.free .any ops l j = true) (hr : (Region.ready .any ops l).contains j = true) (hne : s0 ≠ j) (hrun : ∀ w, (execOp a.eval ⟨some d, op, ty, p, af, none⟩).run Tryd.prog w = .ok (.value v) w) (hS : l.getD s0 false = true ∨ S0 w) (hsz : d < a.tmps.size)
   (hK : ∀ a', Pt d a a' → a'.tmps.getD d undef = v → LTree ops s0 S0 K n (l.setIfInBounds j true) a' w) : LTree ops s0 S0 K (n + 1) l a w :=
 wpAnyL_first (S1 := fun _ => True) h0 (Region.noSelect_spec hs) (fun _ _ _ h => h) hne (.inl fun _ => trivial) n l a w (Region.free_spec h0 hf) (by simpa using hr) (.inl ⟨by simp [Region.wanted], fun w _ => hrun w⟩) (.inl fun _ => trivial) (fun h => by
   rcases hS with hS | hS
   · rw [hS] at h; cases h
   · exact hS) (hK _ (Pt.put _ _ _) (put_get _ hsz))
theorem tkl_p (h0 : ops[j]? = some ⟨some d, op, ty, p, af, none⟩) (hrun : (execOp a.eval ⟨some d, op, ty, p, af, none⟩).run Tryd.prog w = .ok (.value v) w') (hS : (l.setIfInBounds j true).getD s0 false = true ∨ S0 w') (hsz : d < a.tmps.size) (hK : ∀ a', Pt d a a' → a'.tmps.getD d undef = v → LTree ops s0 S0 K n (l.setIfInBounds j true) a' w') : TKL ops s0 S0 K n j l a w := by
 unfold TKL wpOp
 simp only [h0]
 rw [if_pos (by simp [Region.wanted])]
 refine .inl ?_
 unfold Oper.wp
 rw [hrun]
 refine ⟨fun h => ?_, hK _ (Pt.put _ _ _) (put_get _ hsz)⟩
 rcases hS with hS | hS
 · rw [hS] at h; cases h
 · exact hS
theorem tkl_n (h0 : ops[j]? = some ⟨none, op, ty, p, af, none⟩) (hrun : (execOp a.eval ⟨none, op, ty, p, af, none⟩).run Tryd.prog w = .ok .skip w') (hS : (l.setIfInBounds j true).getD s0 false = true ∨ S0 w') (hK : LTree ops s0 S0 K n (l.setIfInBounds j true) a w') : TKL ops s0 S0 K n j l a w := by
 unfold TKL wpOp
 simp only [h0]
 rw [if_pos (by simp [Region.wanted])]
 refine .inl ?_
 unfold Oper.wp
 rw [hrun]
 refine ⟨fun h => ?_, hK⟩
 rcases hS with hS | hS
 · rw [hS] at h; cases h
 · exact hS
end
end Go.Proofs.YtdpebhlkgmopkaaDoor
