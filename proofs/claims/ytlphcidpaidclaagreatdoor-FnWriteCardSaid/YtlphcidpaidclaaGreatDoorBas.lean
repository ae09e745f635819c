/-
  Small general facts, and the contract of spec.Decimal: a whole number's digits; memory stays as it is.
-/
import Derived.Test.YtlphcidpaidclaaGreatDoorRows
import Derived.WalkKit
import Derived.WalkSpells
import Derived.WalkLawsBesides
import Derived.Lib.Hide
import Derived.Lib.Strings
import Derived.Lib.ItoaNum
namespace Go.Proofs.YtlphcidpaidclaaGreatDoor
open Go.RowKit

theorem ret_bool {a b : Bool} (h : a = b) : Ending.returned (.bool a) = .returned (.bool b) := by rw [h]
theorem ret_int {k : IntKind} {a b : Int} (h : a = b) : Ending.returned (.int k a) = .returned (.int k b) := by rw [h]
theorem ret_str {a b : ByteArray} (h : a = b) : Ending.returned (.string a) = .returned (.string b) := by rw [h]

theorem bEq_yes {b c : UInt8} {k : Int} (hk : (c.toNat : Int) = k) (h : b = c) : ((b.toNat : Int) == k) = true := by subst hk; subst h; simp
theorem bEq_no {b c : UInt8} {k : Int} (hk : (c.toNat : Int) = k) (h : b ≠ c) : ((b.toNat : Int) == k) = false := by
  subst hk; rw [beq_eq_false_iff_ne]; intro e; exact h (UInt8.toNat_inj.1 (by omega))
theorem bNe_yes {b c : UInt8} {k : Int} (hk : (c.toNat : Int) = k) (h : b ≠ c) : ((b.toNat : Int) != k) = true := by
  subst hk; rw [bne_iff_ne]; intro e; exact h (UInt8.toNat_inj.1 (by omega))
theorem bNe_no {b c : UInt8} {k : Int} (hk : (c.toNat : Int) = k) (h : b = c) : ((b.toNat : Int) != k) = false := by subst hk; subst h; simp

theorem ofL (t : ByteArray) : (⟨t.data.toList.toArray⟩ : ByteArray) = t := by cases t; simp

/-- a byte string of a list -/
abbrev bs (l : List UInt8) : ByteArray := ⟨l.toArray⟩
theorem bs_eq {s : ByteArray} {l : List UInt8} (h : s.data.toList = l) : s = bs l := by rw [← h, bs, ofL]
theorem data_app (a b : ByteArray) : (a ++ b).data.toList = a.data.toList ++ b.data.toList := by simp [ByteArray.data_append]
theorem data_bs (l : List UInt8) : (bs l).data.toList = l := rfl
theorem size_bs (l : List UInt8) : (bs l).size = l.length := rfl
theorem ext_mid (s : ByteArray) (a b : Nat) : s.extract a b = bs ((s.data.toList.drop a).take (b - a)) := bs_eq (Lib.extract_data s a b)
theorem encode_ascii (n : Nat) (h : n < 128) : Utf8.encode (n : Int) = bs [UInt8.ofNat n] := by
  have : ∀ m : Fin 128, Utf8.encode ((m.val : Nat) : Int) = bs [UInt8.ofNat m.val] := by decide +kernel
  exact this ⟨n, h⟩
theorem encode_digit {n : Int} (h0 : 0 ≤ n) (h : n < 10) : Utf8.encode (48 + n) = bs [UInt8.ofNat (48 + n.toNat)] := by
  have e := encode_ascii (48 + n.toNat) (by omega)
  rw [show ((48 + n.toNat : Nat) : Int) = 48 + n by omega] at e
  exact e

theorem decDigits_len (k : Nat) : ∀ n : Nat, n < 10 ^ k → 1 ≤ k → (Lib.decDigits n).length ≤ k := by
  induction k with
  | zero => intro n _ h; omega
  | succ k ih =>
    intro n hn _
    unfold Lib.decDigits
    split
    · simp
    · rename_i h
      have hk : 1 ≤ k := by
        rcases Nat.eq_zero_or_pos k with rfl | h'
        · simp at hn; omega
        · exact h'
      have := ih (n / 10) (by rw [Nat.pow_succ] at hn; omega) hk
      simp; omega

set_option maxHeartbeats 400000 in
theorem decimal_ind (k : Nat) : ∀ (n : Int) (w : World), 0 ≤ n → n < 10 ^ (k + 1) → k + 1 ≤ 20 → n ≤ 18446744073709551615 →
    Calls Tryz.prog 6 #[.int .u64 n] w fun e w' => e = .returned (.string (bs (Lib.decDigits n.toNat))) ∧ w = w' := by
  induction k with
  | zero =>
    intro n w h0 hn _ _
    have hn : n < 10 := by simpa using hn
    have HE := Lib.hid (encode_digit h0 hn)
    have HD : Hid (Lib.decDigits n.toNat = [UInt8.ofNat (48 + n.toNat)]) := Lib.hid (by unfold Lib.decDigits; rw [dif_pos (by omega)])
    go_enter Tryz.func6, Tryz.ntmps6
    go_wp2_with fail
    go_ret
    exact ⟨ret_str (by rw [HD.out, ← HE.out]), rfl⟩
  | succ k ih =>
    intro n w h0 hn hk hmax
    by_cases hlt : n < 10
    · have HE := Lib.hid (encode_digit h0 hlt)
      have HD : Hid (Lib.decDigits n.toNat = [UInt8.ofNat (48 + n.toNat)]) := Lib.hid (by unfold Lib.decDigits; rw [dif_pos (by omega)])
      clear hn
      go_enter Tryz.func6, Tryz.ntmps6
      go_wp2_with fail
      go_ret
      exact ⟨ret_str (by rw [HD.out, ← HE.out]), rfl⟩
    · have HE := Lib.hid (encode_digit (n := n % 10) (by omega) (by omega))
      have hq : n / 10 < 10 ^ (k + 1) := by rw [Int.pow_succ] at hn; omega
      have HD : Hid (Lib.decDigits n.toNat = Lib.decDigits (n / 10).toNat ++ [UInt8.ofNat (48 + (n % 10).toNat)]) := Lib.hid (by
        conv => lhs; unfold Lib.decDigits
        rw [dif_neg (by omega)]
        rw [show n.toNat / 10 = (n / 10).toNat by omega, show n.toNat % 10 = (n % 10).toNat by omega])
      have hl : (bs (Lib.decDigits (n / 10).toNat)).size ≤ 20 := Nat.le_trans (decDigits_len (k + 1) (n / 10).toNat (by
        have : ((n / 10).toNat : Int) < ((10 ^ (k + 1) : Nat) : Int) := by rw [Int.toNat_of_nonneg (by omega)]; push_cast; exact hq
        omega) (by omega)) (by omega)
      have hc := fun w => ih (n / 10) w (by omega) hq (by omega) (by omega)
      have HC := Lib.hid hc
      clear hc hn hq
      generalize hg : bs (Lib.decDigits (n / 10).toNat) = g at *
      have HG := Lib.hid hg
      clear hg
      have he1 : (Utf8.encode (48 + n % 10)).size ≤ 1 := by rw [HE.out]; exact Nat.le_refl 1
      go_enter Tryz.func6, Tryz.ntmps6
      go_wp2_with fail
      refine (HC.out _).mono ?_
      rintro e w' ⟨rfl, rfl⟩
      go_wp2_with fail
      go_ret
      exact ⟨ret_str (by rw [HD.out, HE.out, ← HG.out]; exact bs_eq (by rw [data_app])), rfl⟩
/-- spec.Decimal at every number. -/
theorem decimal_any (n : Int) (w : World) (h0 : 0 ≤ n) (hm : n ≤ 18446744073709551615) :
    Calls Tryz.prog 6 #[.int .u64 n] w fun e w' => e = .returned (.string (bs (Lib.decDigits n.toNat))) ∧ w = w' :=
  decimal_ind 19 n w h0 (by omega) (by omega) hm

theorem enc_tab (L : ByteArray) (hL : ∀ i : Fin L.size, L[i].toNat < 128) : ∀ (i : Nat) (h : i < L.size), Utf8.encode (wrap32 ((L[i]'h).toNat : Int)) = bs [L[i]'h] := by
  intro i h
  have := hL ⟨i, h⟩
  have this : (L[i]'h).toNat < 128 := this
  rw [show wrap32 ((L[i]'h).toNat : Int) = ((L[i]'h).toNat : Int) from by unfold wrap32; omega, encode_ascii _ this]
  simp
theorem tab_mem (L : ByteArray) (i : Nat) (h : i < L.size) : L[i]'h ∈ L.data.toList := by
  have : L[i]'h = L.data.toList[i]'(by simpa using h) := rfl
  rw [this]; exact List.getElem_mem _

end Go.Proofs.YtlphcidpaidclaaGreatDoor
