/-
  Contracts of the small text functions of m3u8 (zzNameByte, zzValue, zzTrim): each computes a plain function on bytes and leaves memory as it is.
-/
import Derived.Test.YtlphcidpaidclaaRows
import Derived.WalkKit
import Derived.WalkSpells
import Derived.WalkLawsBesides
import Derived.Lib.Hide
import Derived.Lib.Strings
namespace Go.Proofs.Ytlphcidpaidclaa
open Go.RowKit

theorem ret_bool {a b : Bool} (h : a = b) : Ending.returned (.bool a) = .returned (.bool b) := by rw [h]
theorem ret_int {k : IntKind} {a b : Int} (h : a = b) : Ending.returned (.int k a) = .returned (.int k b) := by rw [h]
theorem ret_str {a b : ByteArray} (h : a = b) : Ending.returned (.string a) = .returned (.string b) := by rw [h]

/-- is a byte one of a name -/
def nbI (c : Int) : Bool := decide (97 ≤ c ∧ c ≤ 122) || decide (65 ≤ c ∧ c ≤ 90) || decide (48 ≤ c ∧ c ≤ 57) || c == 95 || c == 45

set_option maxHeartbeats 400000 in
theorem nameByte_any (c : Int) (w : World) :
    Calls Try.prog 25 #[.int .u8 c] w fun e w' => e = .returned (.bool (nbI c)) ∧ w = w' := by
  go_enter Try.func25, Try.ntmps25
  go_wp2
  all_goals go_ret
  all_goals exact ⟨ret_bool (by rw [Bool.eq_iff_iff]; simp [nbI]; try omega), rfl⟩

/-- how many bytes at the head of l meet p -/
def tw (p : UInt8 → Bool) (l : List UInt8) : Nat := (l.takeWhile p).length
theorem tw_le (p : UInt8 → Bool) (l : List UInt8) : tw p l ≤ l.length := by
  induction l with
  | nil => simp [tw]
  | cons a t ih => unfold tw at *; simp only [List.takeWhile_cons]; split <;> simp; exact ih
theorem tw_at {p : UInt8 → Bool} {s : ByteArray} {n : Nat} (h : n < s.size) :
    tw p (s.data.toList.drop n) = if p s[n] then tw p (s.data.toList.drop (n + 1)) + 1 else 0 := by
  have hl : n < s.data.toList.length := by simpa using h
  rw [List.drop_eq_getElem_cons hl]
  have e : s.data.toList[n] = s[n] := rfl
  rw [e]
  unfold tw
  simp only [List.takeWhile_cons]
  split <;> simp
theorem tw_end {p : UInt8 → Bool} {s : ByteArray} {n : Nat} (h : s.size ≤ n) : tw p (s.data.toList.drop n) = 0 := by
  rw [List.drop_eq_nil_of_le (by simpa using h)]; rfl

def pQ (c : UInt8) : Bool := c != 34
def pU (c : UInt8) : Bool := c != 34 && c != 44
/-- zzValue -/
def valLen (l : List UInt8) : Nat :=
  if l.head? = some 34 then (if tw pQ (l.drop 1) < l.length - 1 ∧ 1 ≤ tw pQ (l.drop 1) then tw pQ (l.drop 1) + 2 else 0) else tw pU l

theorem bEq_yes {b c : UInt8} {k : Int} (hk : (c.toNat : Int) = k) (h : b = c) : ((b.toNat : Int) == k) = true := by subst hk; subst h; simp
theorem bEq_no {b c : UInt8} {k : Int} (hk : (c.toNat : Int) = k) (h : b ≠ c) : ((b.toNat : Int) == k) = false := by
  subst hk; rw [beq_eq_false_iff_ne]; intro e; exact h (UInt8.toNat_inj.1 (by omega))
theorem bNe_yes {b c : UInt8} {k : Int} (hk : (c.toNat : Int) = k) (h : b ≠ c) : ((b.toNat : Int) != k) = true := by
  subst hk; rw [bne_iff_ne]; intro e; exact h (UInt8.toNat_inj.1 (by omega))
theorem bNe_no {b c : UInt8} {k : Int} (hk : (c.toNat : Int) = k) (h : b = c) : ((b.toNat : Int) != k) = false := by subst hk; subst h; simp

set_option maxHeartbeats 400000 in
theorem value_quoted (s : ByteArray) (w : World) (hs : s.size ≤ maxLen) (h0 : 0 < s.size) (hq : s[0] = 34) :
    Calls Try.prog 26 #[.string s] w fun e w' => e = .returned (.int .i64 (valLen s.data.toList)) ∧ w = w' := by
  unfold maxLen at hs
  have hq1 : ((s[0].toNat : Int) == 34) = true := by rw [hq]; rfl
  have HV : Hid (valLen s.data.toList = if tw pQ (s.data.toList.drop 1) < s.size - 1 ∧ 1 ≤ tw pQ (s.data.toList.drop 1) then tw pQ (s.data.toList.drop 1) + 2 else 0) := by
    have e : s.data.toList.head? = some 34 := by
      have : s.data.toList[0]'(by simpa using h0) = 34 := hq
      rw [List.head?_eq_getElem?, List.getElem?_eq_getElem (by simpa using h0), this]
    exact Lib.hid (by unfold valLen; rw [if_pos e]; simp)
  clear hq
  go_enter Try.func26, Try.ntmps26
  go_wp2
  go_loop [3] (fun i => ∃ n : Nat, 1 ≤ n ∧ n ≤ s.size ∧ i = .int .i64 n ∧ Hid (tw pQ (s.data.toList.drop n) + n = tw pQ (s.data.toList.drop 1) + 1)) (fun i => s.size - (intOf i).toNat)
  case atStart => exact ⟨1, by omega, by omega, rfl, Lib.hid rfl⟩
  case round =>
    obtain ⟨n, hn1, hn2, rfl, HT⟩ := hrel
    by_cases hlt : n < s.size
    · have HA := Lib.hid (tw_at (p := pQ) hlt)
      by_cases hc : s[n] = 34
      · have hc1 : ((s[n].toNat : Int) != 34) = false := by rw [hc]; rfl
        have HE : Hid (tw pQ (s.data.toList.drop 1) + 1 = n) := Lib.hid (by have := HT.out; have h2 := HA.out; rw [hc] at h2; simp [pQ] at h2; omega)
        clear hc
        by_cases h1 : 1 < n
        · go_wp2
          go_ret
          exact ⟨ret_int (by rw [HV.out, if_pos (by have := HE.out; omega)]; have := HE.out; omega), rfl⟩
        · go_wp2
          go_ret
          exact ⟨ret_int (by rw [HV.out, if_neg (by have := HE.out; omega)]; rfl), rfl⟩
      · have hc1 : ((s[n].toNat : Int) != 34) = true := bNe_yes (c := 34) rfl hc
        have HN : Hid (tw pQ (s.data.toList.drop (n + 1)) + (n + 1) = tw pQ (s.data.toList.drop 1) + 1) := Lib.hid (by have := HT.out; have h2 := HA.out; rw [if_pos (by simpa [pQ] using hc)] at h2; omega)
        clear hc
        go_wp2
        go_round
        case rel => exact ⟨n + 1, by omega, by omega, by go_num, HN⟩
        case measure => simp [intOf]; omega
    · have HE : Hid (tw pQ (s.data.toList.drop 1) + 1 = s.size) := Lib.hid (by have := HT.out; rw [tw_end (by omega)] at this; omega)
      go_wp2
      go_ret
      exact ⟨ret_int (by rw [HV.out, if_neg (by have := HE.out; omega)]; rfl), rfl⟩

set_option maxHeartbeats 400000 in
theorem value_bare (s : ByteArray) (w : World) (hs : s.size ≤ maxLen) (hq : ∀ h : 0 < s.size, s[0] ≠ 34) :
    Calls Try.prog 26 #[.string s] w fun e w' => e = .returned (.int .i64 (valLen s.data.toList)) ∧ w = w' := by
  unfold maxLen at hs
  have HV : Hid (valLen s.data.toList = tw pU (s.data.toList.drop 0)) := by
    refine Lib.hid ?_
    unfold valLen
    rw [if_neg]
    · rfl
    · intro h
      rw [List.head?_eq_getElem?] at h
      obtain ⟨h1, h2⟩ := List.getElem?_eq_some_iff.1 h
      exact hq (by simpa using h1) h2
  have key : ∀ (w : World), (if h : 0 < s.size then ((s[0].toNat : Int) == 34) = false else True) := by
    intro w
    split
    · rename_i h
      have := hq h
      exact bEq_no (c := 34) rfl this
    · trivial
  have key := key w
  clear hq
  by_cases h0 : 0 < s.size
  all_goals
    simp only [h0, dite_true, dite_false] at key
    go_enter Try.func26, Try.ntmps26
    go_wp2
    go_loop [3] (fun i => ∃ n : Nat, n ≤ s.size ∧ i = .int .i64 n ∧ Hid (tw pU (s.data.toList.drop n) + n = tw pU (s.data.toList.drop 0))) (fun i => s.size - (intOf i).toNat)
    case atStart => exact ⟨0, by omega, rfl, Lib.hid rfl⟩
    case round =>
      obtain ⟨n, hn2, rfl, HT⟩ := hrel
      by_cases hlt : n < s.size
      · have HA := Lib.hid (tw_at (p := pU) hlt)
        by_cases hc : pU s[n] = true
        · have hc1 : ((s[n].toNat : Int) != 34) = true := by
            have : s[n] ≠ 34 := by simp [pU] at hc; exact hc.1
            exact bNe_yes (c := 34) rfl this
          have hc2 : ((s[n].toNat : Int) != 44) = true := by
            have : s[n] ≠ 44 := by simp [pU] at hc; exact hc.2
            exact bNe_yes (c := 44) rfl this
          have HN : Hid (tw pU (s.data.toList.drop (n + 1)) + (n + 1) = tw pU (s.data.toList.drop 0)) := Lib.hid (by have := HT.out; have h2 := HA.out; rw [if_pos hc] at h2; omega)
          clear hc
          go_wp2
          go_round
          case rel => exact ⟨n + 1, by omega, by go_num, HN⟩
          case measure => simp [intOf]; omega
        · have HE : Hid (tw pU (s.data.toList.drop 0) = n) := Lib.hid (by have := HT.out; have h2 := HA.out; rw [if_neg hc] at h2; omega)
          by_cases h34 : s[n] = 34
          · have hc1 : ((s[n].toNat : Int) != 34) = false := by rw [h34]; rfl
            clear hc h34
            go_wp2
            go_ret
            exact ⟨ret_int (by rw [HV.out, HE.out]), rfl⟩
          · have hc1 : ((s[n].toNat : Int) != 34) = true := bNe_yes (c := 34) rfl h34
            have hc2 : ((s[n].toNat : Int) != 44) = false := by
              have : s[n] = 44 := by simp [pU, h34] at hc; exact hc
              rw [this]; rfl
            clear hc h34
            go_wp2
            go_ret
            exact ⟨ret_int (by rw [HV.out, HE.out]), rfl⟩
      · have HE : Hid (tw pU (s.data.toList.drop 0) = s.size) := Lib.hid (by have := HT.out; rw [tw_end (by omega)] at this; omega)
        have hns : n = s.size := by omega
        subst hns
        go_wp2
        go_ret
        exact ⟨ret_int (by rw [HV.out, HE.out]), rfl⟩

theorem value_any (s : ByteArray) (w : World) (hs : s.size ≤ maxLen) :
    Calls Try.prog 26 #[.string s] w fun e w' => e = .returned (.int .i64 (valLen s.data.toList)) ∧ w = w' := by
  by_cases h : ∃ h : 0 < s.size, s[0] = 34
  · obtain ⟨h0, hq⟩ := h
    exact value_quoted s w hs h0 hq
  · exact value_bare s w hs fun h0 hq => h ⟨h0, hq⟩

/-- what zzTrim strips -/
def pT (c : UInt8) : Bool := c == 32 || c == 34
def trimR (l : List UInt8) : List UInt8 := (l.reverse.dropWhile pT).reverse
def trimQ (l : List UInt8) : List UInt8 := trimR (l.dropWhile pT)
def strSz : Value → Nat
  | .string s => s.size
  | _ => 0
theorem extract_tail (t : ByteArray) : (t.extract 1 t.size).data.toList = t.data.toList.drop 1 := by
  rw [Lib.extract_data, List.take_of_length_le (by simp)]
theorem extract_init (t : ByteArray) (n : Nat) : (t.extract 0 n).data.toList = t.data.toList.take n := by
  rw [Lib.extract_data]; simp
theorem trimR_last {l : List UInt8} {c : UInt8} (h : pT c = true) : trimR (l ++ [c]) = trimR l := by
  simp [trimR, h]
theorem trimR_keep {l : List UInt8} {c : UInt8} (h : pT c = false) : trimR (l ++ [c]) = l ++ [c] := by
  simp [trimR, h]
theorem trimR_at {t : ByteArray} (h0 : 0 < t.size) : trimR t.data.toList = if pT (t[t.size - 1]) then trimR (t.data.toList.take (t.size - 1)) else t.data.toList := by
  have e : t.data.toList = t.data.toList.take (t.size - 1) ++ [t[t.size - 1]] := by
    have hl : t.size - 1 < t.data.toList.length := by simp; omega
    have := List.take_succ_eq_append_getElem hl
    rw [show t.size - 1 + 1 = t.data.toList.length by simp; omega, List.take_length] at this
    exact this
  split
  · rename_i h; conv => lhs; rw [e]
    exact trimR_last h
  · rename_i h; conv => lhs; rw [e]
    rw [trimR_keep (by simpa using h)]; exact e.symm
theorem dropW_at {t : ByteArray} (h0 : 0 < t.size) : t.data.toList.dropWhile pT = if pT t[0] then (t.data.toList.drop 1).dropWhile pT else t.data.toList := by
  have hl : 0 < t.data.toList.length := by simpa using h0
  have e : t.data.toList = t[0] :: t.data.toList.drop 1 := by
    have := List.drop_eq_getElem_cons hl
    rw [List.drop_zero] at this
    exact this
  conv => lhs; rw [e]
  simp only [List.dropWhile_cons]
  split
  · rfl
  · exact e.symm
theorem ofL (t : ByteArray) : (⟨t.data.toList.toArray⟩ : ByteArray) = t := by cases t; simp

set_option maxHeartbeats 1000000 in
theorem trim_any (s : ByteArray) (w : World) (hs : s.size ≤ maxLen) :
    Calls Try.prog 14 #[.string s] w fun e w' => e = .returned (.string ⟨(trimQ s.data.toList).toArray⟩) ∧ w = w' := by
  unfold maxLen at hs
  go_enter Try.func14, Try.ntmps14
  go_wp2
  go_loop [0] (fun v => ∃ t : ByteArray, t.size ≤ 2 ^ 63 - 1 ∧ v = .string t ∧ Hid (t.data.toList.dropWhile pT = s.data.toList.dropWhile pT)) (fun v => strSz v)
  case atStart => exact ⟨s, hs, rfl, Lib.hid rfl⟩
  case round =>
    obtain ⟨t, ht, rfl, HT⟩ := hrel
    by_cases hgo : ∃ h0 : 0 < t.size, pT t[0] = true
    · obtain ⟨h0, hp⟩ := hgo
      have HN : Hid ((t.extract 1 t.size).data.toList.dropWhile pT = s.data.toList.dropWhile pT) := Lib.hid (by rw [extract_tail]; have := dropW_at h0; rw [if_pos hp] at this; rw [← this]; exact HT.out)
      by_cases h32 : t[0] = 32
      · have hc : ((t[0].toNat : Int) == 32) = true := by rw [h32]; rfl
        clear h32 hp
        go_wp2
        go_round
        case rel => exact ⟨_, by simp; omega, rfl, HN⟩
        case measure => simp [strSz]; omega
      · have hc : ((t[0].toNat : Int) == 32) = false := bEq_no (c := 32) rfl h32
        have hc2 : ((t[0].toNat : Int) == 34) = true := by
          have : t[0] = 34 := by simp [pT, h32] at hp; exact hp
          rw [this]; rfl
        clear h32 hp
        go_wp2
        go_round
        case rel => exact ⟨_, by simp; omega, rfl, HN⟩
        case measure => simp [strSz]; omega
    · have HS : Hid (trimR t.data.toList = trimQ s.data.toList) := Lib.hid (by
        unfold trimQ
        by_cases h0 : 0 < t.size
        · have h2 := dropW_at h0; rw [if_neg (fun h => hgo ⟨h0, h⟩)] at h2; rw [← HT.out, h2]
        · have e : t.data.toList = [] := List.eq_nil_of_length_eq_zero (by have : t.data.toList.length = t.size := rfl; omega)
          have h2 := HT.out
          rw [e] at h2 ⊢
          rw [← h2]; rfl)
      have key : (if h : 0 < t.size then ((t[0].toNat : Int) == 32) = false ∧ ((t[0].toNat : Int) == 34) = false else True) := by
        split
        · rename_i h0
          have hp : ¬ pT t[0] = true := fun h => hgo ⟨h0, h⟩
          constructor
          · have : t[0] ≠ 32 := fun h => hp (by rw [h]; rfl)
            exact bEq_no (c := 32) rfl this
          · have : t[0] ≠ 34 := fun h => hp (by rw [h]; rfl)
            exact bEq_no (c := 34) rfl this
        · trivial
      clear hgo HT
      by_cases h0 : 0 < t.size
      all_goals
        simp only [h0, dite_true, dite_false] at key
        try obtain ⟨hc, hc2⟩ := key
        go_wp2
        go_loop [0] (fun v => ∃ u : ByteArray, u.size ≤ 2 ^ 63 - 1 ∧ v = .string u ∧ Hid (trimR u.data.toList = trimQ s.data.toList)) (fun v => strSz v)
        case atStart => exact ⟨t, ht, rfl, HS⟩
        case round =>
          obtain ⟨u, hu, rfl, HU⟩ := hrel
          by_cases hgo : ∃ h0 : 0 < u.size, pT u[u.size - 1] = true
          · obtain ⟨h1, hp⟩ := hgo
            have HN : Hid (trimR (u.extract 0 (u.size - 1)).data.toList = trimQ s.data.toList) := Lib.hid (by rw [extract_init]; have := trimR_at h1; rw [if_pos hp] at this; rw [← this]; exact HU.out)
            by_cases h32 : u[u.size - 1] = 32
            · have hd : ((u[u.size - 1].toNat : Int) == 32) = true := by rw [h32]; rfl
              clear h32 hp
              go_wp2
              go_round
              case rel => exact ⟨_, by simp; omega, rfl, HN⟩
              case measure => simp [strSz]; omega
            · have hd : ((u[u.size - 1].toNat : Int) == 32) = false := bEq_no (c := 32) rfl h32
              have hd2 : ((u[u.size - 1].toNat : Int) == 34) = true := by
                have : u[u.size - 1] = 34 := by simp [pT, h32] at hp; exact hp
                rw [this]; rfl
              clear h32 hp
              go_wp2
              go_round
              case rel => exact ⟨_, by simp; omega, rfl, HN⟩
              case measure => simp [strSz]; omega
          · have HE : Hid (u.data.toList = trimQ s.data.toList) := Lib.hid (by
              rw [← HU.out]
              by_cases h1 : 0 < u.size
              · have := trimR_at h1; rw [if_neg (fun h => hgo ⟨h1, h⟩)] at this; exact this.symm
              · have e : u.data.toList = [] := List.eq_nil_of_length_eq_zero (by have : u.data.toList.length = u.size := rfl; omega)
                rw [e]; rfl)
            have key : (if h : 0 < u.size then ((u[u.size - 1].toNat : Int) == 32) = false ∧ ((u[u.size - 1].toNat : Int) == 34) = false else True) := by
              split
              · rename_i h1
                have hp : ¬ pT u[u.size - 1] = true := fun h => hgo ⟨h1, h⟩
                constructor
                · have : u[u.size - 1] ≠ 32 := fun h => hp (by rw [h]; rfl)
                  exact bEq_no (c := 32) rfl this
                · have : u[u.size - 1] ≠ 34 := fun h => hp (by rw [h]; rfl)
                  exact bEq_no (c := 34) rfl this
              · trivial
            clear hgo HU
            by_cases h1 : 0 < u.size
            all_goals
              simp only [h1, dite_true, dite_false] at key
              try obtain ⟨hd, hd2⟩ := key
              go_wp2
              go_ret
              exact ⟨ret_str (by rw [← HE.out, ofL]), rfl⟩
end Go.Proofs.Ytlphcidpaidclaa
