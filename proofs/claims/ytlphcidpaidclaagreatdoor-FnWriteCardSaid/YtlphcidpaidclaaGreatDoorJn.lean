/-
  What a row's condition gives: the library's tables, and a slice of 32-bit numbers.
-/
import Derived.Test.YtlphcidpaidclaaGreatDoorSgo
import Derived.Test.YtlphcidpaidclaaGreatDoorCards
import Derived.WalkKit
import Derived.ProofKit
import Derived.OpenShut
import Derived.ShutString
import Derived.Deep.DeepHandedRow
import Derived.ChangeBears2
import Derived.ChangeOld
import Derived.Below
import Derived.OpenVars
import Derived.Lib.LaidTab
import Derived.LaidMore
import Derived.Lay
import GoSem.PinnedTables
namespace Go.Proofs.YtlphcidpaidclaaGreatDoor.Jn
open Go.ChangeShapes Go.WideShapes Go.ChangeAt Go.RowKit
set_option linter.unusedVariables false

theorem own : ownKnob Tryz.prog.godebug = none := by kernel_rfl
theorem laidOut : laidOutB Tryz.prog = true := by kernel_rfl

theorem laid_tail {W : World} {x : String × DataW Unit} {rest : List (String × DataW Unit)} (h : laidMet Tryz.prog (x :: rest) W) : laidMet Tryz.prog rest W := by
  obtain ⟨ps, ⟨g', t', cs, fuel, p, q, hg', ht', hvar, hd, hr, e⟩, h2⟩ := h
  subst e
  exact ⟨q, hr, (List.nodup_append.1 h2.1).2.1, fun b off hm => h2.2 b off (List.mem_append_right _ hm)⟩

/-- an array of pairs of 64-bit numbers that reads as the table holds the table's numbers -/
theorem cells_of_pairs {H : Type} {enc : TypeId × Value → H} {P : Program} {w : World} {base : Nat} {sp : Nat → Bool} {held : Bool} {fuel : Nat} {t e : TypeId} {n : Nat} {k : IntKind} {cs : List Value} {zs : List (Nat × Nat)} {p : List MemPlace} {f0 f1 : Field}
    (ht : P.underlying t = some (.array n e)) (he : P.underlying e = some (.struct #[f0, f1])) (h0 : P.underlying f0.type = some (.int k)) (h1 : P.underlying f1.type = some (.int k)) (hce : P.cellsOf e = 2) (hct : P.cellsOf t = n * 2)
    (hc0 : P.cellsOf f0.type = 1) (hc1 : P.cellsOf f1.type = 1) (ho0 : f0.offset = 0) (ho1 : f1.offset = 1)
    (h : DataW.trod enc P w base sp held fuel t cs = some (.agg (zs.map fun x => .agg [.lit (.int k x.1), .lit (.int k x.2)]), p)) (i : Nat) (x : Nat × Nat) (hi : zs[i]? = some x) :
    cs[2 * i]? = some (Value.int k x.1) ∧ cs[2 * i + 1]? = some (Value.int k x.2) := by
  cases fuel with
  | zero => simp [DataW.trod] at h
  | succ fuel =>
    simp only [DataW.trod, ht, hce, hct] at h
    split at h
    · rename_i hl
      obtain ⟨xs, hm, hx⟩ := Option.map_eq_some_iff.1 h
      have hxs : xs.map (·.1) = zs.map fun x => (DataW.agg [.lit (.int k x.1), .lit (.int k x.2)] : DataW H) := by
        have := congrArg Prod.fst hx
        simpa using this
      have hxl : xs.length = n := by simpa using Lib.mapM_length hm
      have hzl : zs.length = n := by
        have := congrArg List.length hxs
        simp at this
        omega
      have hin : i < n := by
        have := (List.getElem?_eq_some_iff.1 hi).1
        omega
      obtain ⟨b, hb, hf⟩ := Lib.mapM_at hm i i (by simp [hin])
      obtain ⟨y0, y1, m, rfl, _, g0, g1⟩ := trod_struct2 he hf
      obtain ⟨z0, c0, rfl, _⟩ := DataW.trod_int h0 g0
      obtain ⟨z1, c1, rfl, _⟩ := DataW.trod_int h1 g1
      rw [ho0, hc0] at c0
      rw [ho1, hc1] at c1
      have e0 : cs[2 * i]? = some (.int k z0) := by
        have := congrArg (·[0]?) c0
        simpa [List.getElem?_take, List.getElem?_drop, Nat.mul_comm] using this
      have e1 : cs[2 * i + 1]? = some (.int k z1) := by
        have := congrArg (·[0]?) c1
        simpa [List.getElem?_take, List.getElem?_drop, Nat.mul_comm] using this
      have h2 : (xs.map (·.1))[i]? = some (DataW.agg [.lit (.int k z0), .lit (.int k z1)] : DataW H) := by simp [hb]
      rw [hxs] at h2
      simp only [List.getElem?_map, hi, Option.map_some, Option.some.injEq, DataW.agg.injEq, List.cons.injEq, DataW.lit.injEq, Lit.int.injEq, true_and, and_true] at h2
      rw [e0, e1, h2.1, h2.2]
      exact ⟨rfl, rfl⟩
    · cases h

theorem rows_p10 : ∀ x ∈ p10L, Go.Pinned.pow10Rows[x.1]? = some x.2 := by decide +kernel

theorem table {W : World} (h : laidMetH Tryz.prog Rows.fnWholeRow.laid W) : TabP W := by
  have h1 : laidMet Tryz.prog Rows.fnWholeRow.laid W := h
  refine ⟨?_, ?_, ?_⟩
  · exact Lib.tabIs_of_head gTabP (t := 145) (by kernel_rfl) Tryz.underlying145 Tryz.underlying25 (by kernel_rfl) (by kernel_rfl) (laid_tail (laid_tail (laid_tail h1)))
  · obtain ⟨ps, ⟨g', t', cs, fuel, p, q, hg', ht', hvar, hd, _, _⟩, _⟩ := laid_tail (laid_tail (laid_tail (laid_tail (laid_tail (laid_tail (laid_tail h1))))))
    have hg : Tryz.prog.globalNamed "internal/strconv.pow10Tab" = some 7 := by kernel_rfl
    have hty : (Tryz.prog.globals[7]?).map (·.type) = some 187 := by kernel_rfl
    obtain rfl := Option.some.inj (hg.symm.trans hg')
    obtain rfl := Option.some.inj (hty.symm.trans ht')
    intro x hx
    have hc := cells_of_pairs (k := .u64) (zs := Go.Pinned.pow10Rows) Tryz.underlying187 Tryz.underlying186 (by kernel_rfl) (by kernel_rfl) (by kernel_rfl) (by kernel_rfl) (by kernel_rfl) (by kernel_rfl) rfl rfl hd x.1 x.2 (rows_p10 x hx)
    rw [World.var?_cell hg hvar, World.var?_cell hg hvar]
    simpa using hc
  · obtain ⟨ps, ⟨g', t', cs, fuel, p, q, hg', ht', hvar, hd, _, _⟩, _⟩ := laid_tail (laid_tail h1)
    have hg : Tryz.prog.globalNamed "internal/strconv.optimize" = some 4 := by kernel_rfl
    have hty : (Tryz.prog.globals[4]?).map (·.type) = some 4 := by kernel_rfl
    obtain rfl := Option.some.inj (hg.symm.trans hg')
    obtain rfl := Option.some.inj (hty.symm.trans ht')
    obtain ⟨b, hcs, hb⟩ := DataW.trod_bool Tryz.underlying4 hd
    have hb' : b = true := by
      have := congrArg Prod.fst hb
      simpa [Rows.laid_internal_strconv_optimize] using this.symm
    rw [World.var?_cell hg hvar]
    rw [← Array.getElem?_toList, hcs, hb']; rfl

/-- WHAT THE WALK IS TOLD OF A SLICE OF 32-BIT NUMBERS THAT CAME IN -/
def IsRow (w : World) (a : Option Addr) (len cap : Nat) (zs : List Int) : Prop :=
  (a = none ∧ len = 0 ∧ cap = 0 ∧ zs = []) ∨
  ∃ x, a = some x ∧ len ≤ cap ∧ cap ≤ maxLen ∧ zs.length = cap ∧ (∀ i, i < zs.length → w.cell? (x.add i) = some (.int .u32 (zs.getD i 0))) ∧ ∀ n ∈ zs, (Lit.int .u32 n).wf = true

theorem IsRow.u32s {w : World} {a : Option Addr} {len cap : Nat} {zs : List Int} (h : IsRow w a len cap zs) (hlen : len ≤ 100) : ∃ b off, U32s w a b off len cap fun j => (zs.getD j 0).toNat := by
  rcases h with ⟨rfl, rfl, rfl, rfl⟩ | ⟨x, rfl, hl, hmx, hz, hc, hwf⟩
  · exact ⟨0, 0, ⟨by omega, by omega, by omega, by omega, by simp⟩⟩
  · have hr : ∀ j, 0 ≤ zs.getD j 0 ∧ zs.getD j 0 ≤ 4294967295 := fun j => by
      have := range_u32 hwf j
      rwa [← List.getD_eq_getElem?_getD] at this
    by_cases h0 : 0 < len
    · obtain ⟨b, off, rfl, hc'⟩ := ints_at hc (by omega)
      have hb : b < w.heap.size := World.block_lt_of_cell? w ⟨b, off + 0, none⟩ (hc' 0 (by omega))
      refine ⟨b, off, ⟨fun _ => ⟨rfl, hb⟩, hlen, hl, fun j hj => ?_, fun j => ?_⟩⟩
      · rw [hc' j (by omega), Int.toNat_of_nonneg (hr j).1]
      · have := hr j; show (zs.getD j 0).toNat < _; omega
    · exact ⟨0, 0, ⟨by omega, by omega, by omega, by omega, fun j => by have := hr j; show (zs.getD j 0).toNat < _; omega⟩⟩

theorem isRow_of {H : Type} {enc : TypeId × Value → H} {W : World} {base : Nat} {held : Bool} {a : Option Addr} {len cap : Nat} {d : DataW H} {p : List MemPlace} (h : DataW.Trod enc Tryz.prog W base (fun _ => true) held 38 (.slice a len cap) d p) : ∃ zs, IsRow W a len cap zs := by
  obtain ⟨fuel, hf⟩ := h
  rcases open_ints Tryz.underlying38 Tryz.underlying39 (by kernel_rfl) hf with ⟨hcs, _⟩ | ⟨x, l, c, zs, hcs, _, hl, hm, hz, _, hcell, hwz⟩
  · simp [Value.cells] at hcs
    obtain ⟨rfl, rfl, rfl⟩ := hcs
    exact ⟨[], .inl ⟨rfl, rfl, rfl, rfl⟩⟩
  · simp [Value.cells] at hcs
    obtain ⟨rfl, rfl, rfl⟩ := hcs
    exact ⟨zs, .inr ⟨_, rfl, hl, hm, by simpa using hz, hcell, hwz⟩⟩
end Go.Proofs.YtlphcidpaidclaaGreatDoor.Jn
