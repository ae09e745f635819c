/-
  strconv.FormatUint at base 10, for every number.
-/
import Derived.Test.YtlphcidpaidclaaGreatDoorFmt
import Derived.Lib.AppendIntMem
import Derived.Shelf.Strconv.Itoa3
namespace Go.Proofs.YtlphcidpaidclaaGreatDoor
open Go.Shelf Go.RowKit Go.Sort Go.Lib

set_option maxHeartbeats 6400000 in
set_option maxRecDepth 100000 in
theorem ifmtU_any (u : Nat) (hu : 100 ≤ u) (hu64 : u < 18446744073709551616) (w : World) (htab : TabP w) :
    Calls Tryz.prog 58 #[.int .u64 u, .int .i64 10] w fun e w' => e = .returned (.string (bs (Lib.decDigits u))) ∧ ∃ k os, w' = grow (w.drewN k) os := by
  have hu1 : 1 ≤ u := by omega
  have hnd20 : Lib.nDigits u ≤ 20 := by have := Lib.numDigits_eq u hu1 hu64; split at this <;> omega
  have hal : Tryz.prog.arrayLen 133 = 24 := by kernel_rfl
  have hsl1 : ∀ W, (Instr.sliceAt 133 (.pointer (some ⟨w.heap.size, 0, none⟩)) none (some (.int .i64 (Lib.nDigits u : Int))) none).run Tryz.prog W = .ok (.slice (some ⟨w.heap.size, 0, none⟩) (Lib.nDigits u) 24) W := fun W => by
    rw [run_sliceAt_array_h W 133 ⟨w.heap.size, 0, none⟩ (by kernel_rfl) .i64 (Lib.nDigits u : Int) (by omega) (by rw [hal]; omega)]
    go_simp
  have hH0 := Lib.holds_zero0 w 133 (Lib.nDigits u) (by omega)
  have hfmt := Any.internal_strconv_formatBase10 { Tryz.fmtInt with } w.heap.size 0 24 u (Array.replicate (Lib.nDigits u) 0) (w.alloc (.cells Lib.zeros24 133)) hH0 (by rw [Array.size_replicate]; exact Lib.lt_pow_nDigits u) hu64 (by rw [Array.size_replicate]; omega)
  rw [Array.size_replicate] at hfmt
  have hnum := Any.internal_strconv_numDigits { Tryz.fmtInt with } u hu1 hu64 _ (Lib.tabIs_alloc htab.u (.cells Lib.zeros24 133))
  have HH0 := Lib.hid hH0
  have HF := Lib.hid hfmt
  have HN := Lib.hid hnum
  have hge : ¬ (u : Int) < 100 := by omega
  clear hH0 hal hfmt hnum
  go_enter Tryz.func58, Tryz.ntmps58
  go_wp2_with fail
  refine HN.out.mono ?_
  rintro e w' ⟨rfl, rfl⟩
  go_wp2_with fail
  refine HF.out.mono ?_
  rintro e w' ⟨rfl, k, v', dk, rfl, hF⟩
  have hcv : (convert 23 9 (.slice (some ⟨w.heap.size, 0, none⟩) (Lib.nDigits u) 24)).run Tryz.prog ((putRow (fun (b : UInt8) => Value.int .u8 (b.toNat : Int)) (w.alloc (.cells Lib.zeros24 133)) w.heap.size 0 dk).drewN k) = .ok (.string ⟨(Lib.decDigits u).toArray⟩) ((putRow (fun (b : UInt8) => Value.int .u8 (b.toNat : Int)) (w.alloc (.cells Lib.zeros24 133)) w.heap.size 0 dk).drewN k) := by
    have h := run_convert_bytes_back (P := Tryz.prog) ((putRow (fun (b : UInt8) => Value.int .u8 (b.toNat : Int)) (w.alloc (.cells Lib.zeros24 133)) w.heap.size 0 dk).drewN k) 23 9 5 ⟨w.heap.size, 0, none⟩ 24 (Lib.decDigits u) Tryz.underlying23 Tryz.underlying5 Tryz.underlying9 (fun j hj => by
      rw [Lib.row_is_numeral hF j hj, Lib.add_plain, World.cell?_drewN]
      exact cell?_putRow (fun (b : UInt8) => Value.int .u8 (b.toNat : Int)) _ w.heap.size 0 _ dk HH0.out (by rw [hF.size, Array.size_replicate]) j (by rw [hF.size]; rw [Lib.decDigits_length] at hj; exact hj))
    rw [Lib.decDigits_length] at h
    exact h
  have HFF := Lib.hid hF
  clear hF
  go_wp2
  go_ret
  obtain ⟨os, eo⟩ := Lib.fin_at w (.cells Lib.zeros24 133) dk k 0
  exact ⟨rfl, k, os, eo⟩

theorem fmtU_any (u : Nat) (hu64 : u < 18446744073709551616) (w : World) (htab : TabP w) :
    Calls Tryz.prog 50 #[.int .u64 u, .int .i64 10] w fun e w' => e = .returned (.string (bs (Lib.decDigits u))) ∧ ∃ k os, w' = grow (w.drewN k) os := by
  by_cases hs : u < 100
  · refine (fmtU_small u hs w).mono ?_
    rintro e w' ⟨rfl, rfl⟩
    exact ⟨rfl, 0, #[], by simp [World.drewN_zero, grow]⟩
  · have H := Lib.hid fun w h => ifmtU_any u (by omega) hu64 w h
    have HT := Lib.hid htab
    clear htab
    go_enter Tryz.func50, Tryz.ntmps50
    go_wp2_with fail
    refine (H.out _ HT.out).mono ?_
    rintro e w' ⟨rfl, k, os, rfl⟩
    go_wp2_with fail
    go_ret
    exact ⟨rfl, k, os, rfl⟩
theorem fu_any {B b : Nat} {R : Nat → Option Value} {w0 : World} {l : List UInt8} (n : Nat) (hn : n < 18446744073709551616) (ht : TabP w0) (hgt : 7 < B) (w : World) (h : Enc B b R w0 l w) :
    Calls Tryz.prog 50 #[.int .u64 n, .int .i64 10] w fun e w' => e = .returned (.string (bs (Lib.decDigits n))) ∧ Enc B b R w0 l w' := by
  refine (fmtU_any n hn w (ht.keep fun k hk => h.bel.block k (Nat.lt_of_le_of_lt hk hgt))).mono ?_
  rintro e w' ⟨rfl, k, os, rfl⟩
  exact ⟨rfl, (h.drewN k).grow os⟩
end Go.Proofs.YtlphcidpaidclaaGreatDoor
