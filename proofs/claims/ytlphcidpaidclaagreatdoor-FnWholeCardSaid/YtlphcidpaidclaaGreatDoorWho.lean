/-
  FnWhole's walk.
-/
import Derived.Test.YtlphcidpaidclaaGreatDoorWhj
import Derived.Test.YtlphcidpaidclaaGreatDoorFlo
import Derived.Laws.MakeOwn
import Derived.Laws.FloatArith
import Derived.Laws.Cover4
namespace Go.Proofs.YtlphcidpaidclaaGreatDoor
open Go.RowKit

set_option maxRecDepth 100000 in
theorem who_walk (n0 : Int) (m : Nat) (ao : Option Addr) (b off len cap : Nat) (zs : List Int) (w : World) (hn0 : 0 ≤ n0) (hn1 : n0 ≤ 65535) (hm : (m : Int) = n0 % 4000) (hao : 0 < len → ao = some ⟨b, off, none⟩ ∧ b < w.heap.size) (hlen : len ≤ 20) (hcap : len ≤ cap)
    (hc : ∀ j, j < len → w.cell? ⟨b, off + j, none⟩ = some (.int .u8 (zs.getD j 0))) (hr : ∀ j, 0 ≤ zs.getD j 0 ∧ zs.getD j 0 ≤ 255) (htab : TabP w) (hgt : 3 < w.heap.size) :
    Calls Tryz.prog 3 #[.int .u16 n0, .slice ao len cap] w fun e w' => e = .returned (.bool true) ∧ Below w.heap.size w w' := by
  go_enter Tryz.func3, Tryz.ntmps3
  go_wp2_with fail
  rw [← hm]
  have hm4 : m < 4000 := by omega
  clear hm hn0 hn1
  have HN := Lib.hid (flo_near hm4)
  have HDV := Lib.hid (flo_div hm4)
  have HAO := Lib.hid hao
  have HC := Lib.hid hc
  have HR := Lib.hid hr
  have HT := Lib.hid htab
  have HGT := Lib.hid hgt
  clear hao hc hr htab hgt
  go_loop [6, 24] (fun v i => ∃ (j : Nat) (t : ByteArray), j ≤ len ∧ i = .int .i64 j ∧ v = .string t ∧ t.size ≤ j) (fun _ i => len - (intOf i).toNat)
  case atStart => exact ⟨0, _, by omega, rfl, rfl, Nat.zero_le _⟩
  case round =>
    obtain ⟨j, t, hj, rfl, rfl, ht⟩ := hrel
    by_cases hj2 : j < len
    · obtain ⟨rfl, hb⟩ := HAO.out (by omega)
      have hcj := HC.out j hj2
      have hrj := HR.out j
      generalize zs.getD j 0 = z at hcj hrj
      have hes : (Utf8.encode (97 + z % 26)).size ≤ 1 := by
        rw [show 97 + z % 26 = ((97 + (z % 26).toNat : Nat) : Int) by omega, encode_ascii _ (by omega)]
        exact Nat.le_refl _
      go_wp2
      go_round
      case rel => exact ⟨j + 1, _, by omega, by go_num, rfl, by rw [ByteArray.size_append]; omega⟩
      case measure => simp [intOf]; omega
    · have hnear : floatOfInt .f64 (m : Int) = fn m := HN.out
      have hdiv := fun w => run_float_arith (P := Tryz.prog) w .quo 24 .f64 (fn m) 4620693217682128896 (fb m) HDV.out
      go_wp2_with fail
      refine (decimal_any (((m : Int) + 7) / 8) _ (by omega) (by omega)).mono ?_
      rintro e w' ⟨rfl, rfl⟩
      rw [show ((((m : Int) + 7) / 8)).toNat = (m + 7) / 8 by omega]
      clear hnear hdiv
      go_wp2_with fail
      refine (wm_at HT.out HGT.out hm4 (by omega)).mono ?_
      rintro e w2 ⟨rfl, hB⟩
      have hx := bs_who ((m + 7) / 8) t
      have HX := Lib.hid hx
      have HB := Lib.hid hB
      clear hx hB
      have hUs : (bs (Lib.decDigits ((m + 7) / 8))).size ≤ 3 := dd_size (by omega) (by omega)
      generalize bs (whoL ((m + 7) / 8) t) = X at *
      generalize bs (Lib.decDigits ((m + 7) / 8)) = U at *
      go_wp2_with fail
      go_ret
      exact ⟨by rw [← HX.out]; simp, HB.out⟩
end Go.Proofs.YtlphcidpaidclaaGreatDoor
