/-
 What a row's condition gives: the error that the library keeps, and a slice of 32-bit numbers.
-/
import Derived.Test.YtdpebhlkgmopkaaDoorFnm
import Derived.Test.YtdpebhlkgmopkaaDoorCards
import Derived.WalkKit
import Derived.ProofKit
import Derived.OpenShut
import Derived.ShutString
import Derived.Deep.DeepHandedRow
import Derived.ChangeBears2
import Derived.ChangeOld
import Derived.Below
import Derived.OpenVars
import Derived.Lib.LaidTab
import Derived.LaidMore
import Derived.Lay
import GoSem.PinnedTables
namespace Go.Proofs.YtdpebhlkgmopkaaDoor.Jn
open Go.ChangeShapes Go.WideShapes Go.ChangeAt Go.RowKit
set_option linter.unusedVariables false
theorem own : ownKnob Tryd.prog.godebug = none := by kernel_rfl
theorem laidOut : laidOutB Tryd.prog = true := by kernel_rfl
theorem laid_tail {W : World} {x : String × DataW Unit} {rest : List (String × DataW Unit)} (h : laidMet Tryd.prog (x :: rest) W) : laidMet Tryd.prog rest W := by
 obtain ⟨ps, ⟨g', t', cs, fuel, p, q, hg', ht', hvar, hd, hr, e⟩, h2⟩ := h
 subst e
 exact ⟨q, hr, (List.nodup_append.1 h2.1).2.1, fun b off hm => h2.2 b off (List.mem_append_right _ hm)⟩
theorem iface_of {H : Type} {enc : TypeId × Value → H} {P : Program} {w : World} {base : Nat} {sp : Nat → Bool} {held : Bool} {fuel : Nat} {t : TypeId} {cs : List Value} {ms : Array (String × TypeId)} {n : String} {x : DataW H} {p : List MemPlace} (ht : P.underlying t = some (.interface ms))
   (h : DataW.trod enc P w base sp held fuel t cs = some (.iface n x, p)) : ∃ u v, cs = [.iface u v] := by
 cases fuel with
 | zero => simp [DataW.trod] at h
 | succ fuel =>
   simp only [DataW.trod, ht] at h
   split at h
   all_goals first | (simp at h; done) | skip
   all_goals first | exact ⟨_, _, rfl⟩ | (rename_i hh; simp_all; done) | simp_all
theorem table {W : World} (h : laidMetH Tryd.prog Rows.fnStepsRow.laid W) : EV W ∧ 0 < W.heap.size := by
 have h1 : laidMet Tryd.prog Rows.fnStepsRow.laid W := h
 obtain ⟨ps, ⟨g', t', cs, fuel, p, q, hg', ht', hvar, hd, _, _⟩, _⟩ := laid_tail h1
 have hg : Tryd.prog.globalNamed "loop.example/pub-g03454/pub/m3u8.ErrPlaylistFull" = some 0 := by kernel_rfl
 have hty : (Tryd.prog.globals[0]?).map (·.type) = some 83 := by kernel_rfl
 obtain rfl := Option.some.inj (hg.symm.trans hg')
 obtain rfl := Option.some.inj (hty.symm.trans ht')
 obtain ⟨u, v, hcs⟩ := iface_of Tryd.underlying83 hd
 have hc : W.cell? ⟨0, 0, none⟩ = some (.iface u v) := by
   rw [World.var?_cell hg hvar]
   rw [← Array.getElem?_toList, hcs]; rfl
 exact ⟨⟨u, v, hc⟩, World.block_lt_of_cell? W _ hc⟩
/-- WHAT THE WALK IS TOLD OF A SLICE OF 32-BIT NUMBERS THAT CAME IN -/
def IsRow (w : World) (a : Option Addr) (len cap : Nat) (zs : List Int) : Prop :=
 (a = none ∧ len = 0 ∧ cap = 0 ∧ zs = []) ∨
 ∃ x, a = some x ∧ len ≤ cap ∧ cap ≤ maxLen ∧ zs.length = cap ∧ (∀ i, i < zs.length → w.cell? (x.add i) = some (.int .u32 (zs.getD i 0))) ∧ ∀ n ∈ zs, (Lit.int .u32 n).wf = true
theorem IsRow.u32s {w : World} {a : Option Addr} {len cap : Nat} {zs : List Int} (h : IsRow w a len cap zs) (hlen : len ≤ 100) : ∃ b off, U32s w a b off len cap fun j => (zs.getD j 0).toNat := by
 rcases h with ⟨rfl, rfl, rfl, rfl⟩ | ⟨x, rfl, hl, hmx, hz, hc, hwf⟩
 · exact ⟨0, 0, ⟨by omega, by omega, by omega, by omega, by simp⟩⟩
 · have hr : ∀ j, 0 ≤ zs.getD j 0 ∧ zs.getD j 0 ≤ 4294967295 := fun j => by
     have := range_u32 hwf j
     rwa [← List.getD_eq_getElem?_getD] at this
   by_cases h0 : 0 < len
   · obtain ⟨b, off, rfl, hc'⟩ := ints_at hc (by omega)
     have hb : b < w.heap.size := World.block_lt_of_cell? w ⟨b, off + 0, none⟩ (hc' 0 (by omega))
     refine ⟨b, off, ⟨fun _ => ⟨rfl, hb⟩, hlen, hl, fun j hj => ?_, fun j => ?_⟩⟩
     · rw [hc' j (by omega), Int.toNat_of_nonneg (hr j).1]
     · have := hr j; show (zs.getD j 0).toNat < _; omega
   · exact ⟨0, 0, ⟨by omega, by omega, by omega, by omega, fun j => by have := hr j; show (zs.getD j 0).toNat < _; omega⟩⟩
theorem isRow_of {H : Type} {enc : TypeId × Value → H} {W : World} {base : Nat} {held : Bool} {a : Option Addr} {len cap : Nat} {d : DataW H} {p : List MemPlace} (h : DataW.Trod enc Tryd.prog W base (fun _ => true) held 22 (.slice a len cap) d p) : ∃ zs, IsRow W a len cap zs := by
 obtain ⟨fuel, hf⟩ := h
 rcases open_ints Tryd.underlying22 Tryd.underlying27 (by kernel_rfl) hf with ⟨hcs, _⟩ | ⟨x, l, c, zs, hcs, _, hl, hm, hz, _, hcell, hwz⟩
 · simp [Value.cells] at hcs
   obtain ⟨rfl, rfl, rfl⟩ := hcs
   exact ⟨[], .inl ⟨rfl, rfl, rfl, rfl⟩⟩
 · simp [Value.cells] at hcs
   obtain ⟨rfl, rfl, rfl⟩ := hcs
   exact ⟨zs, .inr ⟨_, rfl, hl, hm, by simpa using hz, hcell, hwz⟩⟩
end Go.Proofs.YtdpebhlkgmopkaaDoor.Jn
