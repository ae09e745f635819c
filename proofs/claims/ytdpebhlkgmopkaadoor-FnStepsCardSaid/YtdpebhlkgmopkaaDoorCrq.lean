/-
 Short forms of the steps of a walk.
-/
import Derived.Test.YtdpebhlkgmopkaaDoorCor
namespace Go.Proofs.YtdpebhlkgmopkaaDoor
open Go.RowKit
section
variable {a : Act} {w w' : World} {d j N : Nat} {q : Bool} {op : Op} {ty : TypeId} {p : String} {af : Array Edge} {v : Value} {ops : Array Oper} {rest : List Oper} {QL : Exit → Act → World → Prop} {QS : Act → Prop}
theorem wl_pq (F : Fz N a) (hrun : (execOp a.eval ⟨some d, op, ty, p, af, none⟩).run Tryd.prog w = .ok (.value v) w') (hK : ∀ a', Pt d a a' → Fz N a' → a'.tmps.getD d undef = v → wpList Tryd.prog ops QL rest a' w') (hd : d < N := by decide) :
   wpList Tryd.prog ops QL (⟨some d, op, ty, p, af, none⟩ :: rest) a w := wl_p hrun (by rw [F.size]; exact hd) fun a' u h => hK a' u (F.pt u) h
theorem wl_gq (F : Fz N a) (hg : yielded ops a.tmps j = some q) (hrun : (execOp a.eval ⟨some d, op, ty, p, af, some (j, q)⟩).run Tryd.prog w = .ok (.value v) w') (hK : ∀ a', Pt d a a' → Fz N a' → a'.tmps.getD d undef = v → wpList Tryd.prog ops QL rest a' w') (hd : d < N := by decide) :
   wpList Tryd.prog ops QL (⟨some d, op, ty, p, af, some (j, q)⟩ :: rest) a w := wl_g hg hrun (by rw [F.size]; exact hd) fun a' u h => hK a' u (F.pt u) h
theorem st_pq (F : Fz N a) (hrun : (execOp a.eval ⟨some d, op, ty, p, af, none⟩).run Tryd.prog w = .ok (.value v) w) (hK : ∀ a', Pt d a a' → Fz N a' → a'.tmps.getD d undef = v → wpStill Tryd.prog ops w QS rest a') (hd : d < N := by decide) :
   wpStill Tryd.prog ops w QS (⟨some d, op, ty, p, af, none⟩ :: rest) a := st_p hrun (by rw [F.size]; exact hd) fun a' u h => hK a' u (F.pt u) h
theorem wp_sr {id : Nat} {l : List Oper} {Q : Exit → Act → World → Prop} {c : Code} (h : wpList Tryd.prog l.toArray (Exit.then (fun a w => c.wp Tryd.prog Q a w) Q) l a w) : (Code.seq (Code.region id l.toArray false) c).wp Tryd.prog Q a w := wp_seq (rg_list h)
end
end Go.Proofs.YtdpebhlkgmopkaaDoor
