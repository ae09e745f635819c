/-
  Whole numbers as text: strconv's FormatUint of small numbers, FormatInt, the package's strver.
-/
import Derived.Test.YtlphcidpaidclaaGreatDoorEnb
namespace Go.Proofs.YtlphcidpaidclaaGreatDoor
open Go.RowKit

theorem fmtU_small (v : Nat) (hv : v < 100) (w : World) : Calls Tryz.prog 50 #[.int .u64 v, .int .i64 10] w fun e w' => e = .returned (.string (bs (Lib.decDigits v))) ∧ w' = w := by
  have HS := Lib.hid fun w => Any.internal_strconv_small Tryz.smallS v hv w
  have hvi : (v : Int) < 100 := by omega
  go_enter Tryz.func50, Tryz.ntmps50
  go_wp2_with fail
  go_enter Tryz.func58, Tryz.ntmps58
  go_wp2_with fail
  refine (HS.out _).mono ?_
  rintro e w' ⟨rfl, rfl⟩
  go_wp2_with fail
  go_ret
  exact ⟨rfl, rfl⟩

theorem strver_small (v : Nat) (hv : v < 100) (w : World) : Calls Tryz.prog 47 #[.int .u8 v] w fun e w' => e = .returned (.string (bs (Lib.decDigits v))) ∧ w' = w := by
  have HS := Lib.hid fun w => fmtU_small v hv w
  have hvi : (v : Int) < 100 := by omega
  go_enter Tryz.func47, Tryz.ntmps47
  go_wp2_with fail
  refine (HS.out _).mono ?_
  rintro e w' ⟨rfl, rfl⟩
  go_wp2_with fail
  go_ret
  exact ⟨rfl, rfl⟩

/-- the library's tables are there: powers of ten, their fractions, the switch -/
def TabU (w : World) : Prop := Lib.TabIs Tryz.prog w "internal/strconv.uint64pow10" .u64 Lib.pow10Tab
theorem gTabP : Tryz.prog.globalNamed "internal/strconv.uint64pow10" = some 3 := by kernel_rfl
def p10L : List (Nat × Nat × Nat) := [(351, 18014398509481984000, 0), (352, 11258999068426240000, 0), (363, 16384000000000000000, 0), (364, 10240000000000000000, 0), (365, 12800000000000000000, 0)]
structure TabP (w : World) : Prop where
  u : TabU w
  p : ∀ x ∈ p10L, w.cell? ⟨7, 2 * x.1, none⟩ = some (.int .u64 x.2.1) ∧ w.cell? ⟨7, 2 * x.1 + 1, none⟩ = some (.int .u64 x.2.2)
  o : w.cell? ⟨4, 0, none⟩ = some (.bool true)
theorem cell_same {w w' : World} {g i : Nat} (e : w'.heap[g]? = w.heap[g]?) : w'.cell? ⟨g, i, none⟩ = w.cell? ⟨g, i, none⟩ := by
  simp only [World.cell?, e]
theorem TabP.keep {w w' : World} (h : TabP w) (e : ∀ k, k ≤ 7 → w'.heap[k]? = w.heap[k]?) : TabP w' := by
  refine ⟨?_, fun x hx => ?_, ?_⟩
  · have h := h.u
    unfold TabU Lib.TabIs World.var? at *
    rw [gTabP] at *
    simp only [Option.bind_some] at *
    rw [e _ (by decide)]; exact h
  · rw [cell_same (e _ (Nat.le_refl _)), cell_same (e _ (Nat.le_refl _))]; exact h.p x hx
  · rw [cell_same (e _ (by decide))]; exact h.o

theorem Enc.grow {B b : Nat} {R : Nat → Option Value} {w0 w : World} {l : List UInt8} (h : Enc B b R w0 l w) (os : Array Obj) : Enc B b R w0 l (Go.Sort.grow w os) := by
  have hk : ∀ k, k < w.heap.size → (Go.Sort.grow w os).heap[k]? = w.heap[k]? := fun k hk => by
    show (w.heap ++ os)[k]? = _
    rw [Array.getElem?_append_left hk]
  have hs : w.heap.size ≤ (Go.Sort.grow w os).heap.size := by show _ ≤ (w.heap ++ os).size; rw [Array.size_append]; omega
  refine ⟨h.buf.carry hk, h.bel.trans ⟨rfl, rfl, rfl, hs, fun k hkB => hk k (Nat.lt_of_lt_of_le hkB h.low)⟩, ?_, Nat.le_trans h.low hs⟩
  intro k o ho hb hT
  have h1 := h.oth k o ho hb hT
  rw [hk k (Array.getElem?_eq_some_iff.1 h1).1]; exact h1

theorem enc_fi {B b : Nat} {R : Nat → Option Value} {w0 w : World} {l : List UInt8} (v : Nat) (hv : v < 9223372036854775808) (h : Enc B b R w0 l w) (ht : TabP w) :
    Calls Tryz.prog 49 #[.int .i64 v, .int .i64 10] w fun e w' => e = .returned (.string (bs (Lib.decDigits v))) ∧ Enc B b R w0 l w' := by
  refine (Any.strconv_FormatInt_10 Tryz.fmtInt v (by omega) (by omega) w ht.u).mono ?_
  rintro e w' ⟨rfl, k, os, rfl⟩
  refine ⟨ret_str (congrArg bs ?_), (h.drewN k).grow os⟩
  simp [Lib.itoa]
end Go.Proofs.YtlphcidpaidclaaGreatDoor
