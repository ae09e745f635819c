/-
  The contract of m3u8's reKeyValue: the pairs of name and value that stand in a text, one after the other, as a plain function of its bytes; they lie in a row that the call has made.
-/
import Derived.Test.YtlphcidpaidclaaDec
import Derived.Test.YtlphcidpaidclaaOwn
namespace Go.Proofs.Ytlphcidpaidclaa
open Go.RowKit

def nbB (c : UInt8) : Bool := nbI c.toNat
/-- what one round of reKeyValue does at a text that is not empty: the pair that it finds, how far it goes on. -/
def kvStep (l : List UInt8) : Option (List UInt8 × List UInt8) × Nat :=
  if tw nbB l = 0 ∨ l.length ≤ tw nbB l ∨ l[tw nbB l]? ≠ some 61 then (none, max (tw nbB l) 1)
  else if valLen (l.drop (tw nbB l + 1)) = 0 then (none, tw nbB l + 1)
  else (some (l.take (tw nbB l), (l.drop (tw nbB l + 1)).take (valLen (l.drop (tw nbB l + 1)))), tw nbB l + 1 + valLen (l.drop (tw nbB l + 1)))
theorem kvStep_pos (l : List UInt8) : 1 ≤ (kvStep l).2 := by
  unfold kvStep; split
  · exact Nat.le_max_right _ _
  · split <;> simp
    omega
/-- reKeyValue -/
def kv (l : List UInt8) : List (List UInt8 × List UInt8) :=
  if _h : l = [] then [] else (kvStep l).1.toList ++ kv (l.drop (kvStep l).2)
termination_by l.length
decreasing_by
  have := kvStep_pos l
  have : 0 < l.length := List.length_pos_iff.2 _h
  simp; omega
theorem kv_nil : kv [] = [] := by unfold kv; simp
theorem kv_step {l : List UInt8} (h : l ≠ []) : kv l = (kvStep l).1.toList ++ kv (l.drop (kvStep l).2) := by
  conv => lhs; unfold kv
  rw [dif_neg h]
theorem valLen_le (l : List UInt8) : valLen l ≤ l.length := by
  unfold valLen
  have h1 := tw_le pQ (l.drop 1)
  have h2 := tw_le pU l
  simp at h1
  split
  · split <;> omega
  · exact h2

/-- a pair as the two cells of an array -/
def pairCells (p : List UInt8 × List UInt8) : List Value := [.string (bs p.1), .string (bs p.2)]
def pairsCells (ps : List (List UInt8 × List UInt8)) : List Value := ps.flatMap pairCells
theorem pairsCells_snoc (ps : List (List UInt8 × List UInt8)) (p : List UInt8 × List UInt8) : pairsCells (ps ++ [p]) = pairsCells ps ++ pairCells p := by simp [pairsCells]

theorem ext_mid (s : ByteArray) (a b : Nat) : s.extract a b = bs ((s.data.toList.drop a).take (b - a)) := bs_eq (Lib.extract_data s a b)
theorem ext_end (s : ByteArray) (a : Nat) : (s.extract a s.size).data.toList = s.data.toList.drop a := by
  rw [Lib.extract_data, List.take_of_length_le (by simp)]

theorem infoPair : (Try.prog.info? 31).map (fun i => (i.zero, i.size, i.bytes)) = some (some (.agg #[.string ⟨#[]⟩, .string ⟨#[]⟩]), 2, 32) := by kernel_rfl

/-- what holds at the head of a round of reKeyValue, round by round -/
def KvRel (B : Nat) (w : World) (s : ByteArray) (v i : Value) (wr : World) : Prop :=
  ∃ (k : Nat) (ps : List (List UInt8 × List UInt8)), k ≤ s.size ∧ ps.length ≤ k ∧ i = .int .i64 k ∧ wr.ownsRow B 31 2 v ps.length (pairsCells ps) ∧ Below B w wr ∧ ps ++ kv (s.data.toList.drop k) = kv s.data.toList

theorem drop_ne {s : ByteArray} {k : Nat} (h : k < s.size) : s.data.toList.drop k ≠ [] := by
  intro e
  have := congrArg List.length e
  have h2 : s.data.toList.length = s.size := rfl
  simp at this; omega
theorem get_drop (L : List UInt8) (k n : Nat) : (L.drop k)[n]? = L[k + n]? := by simp
section
variable {s : ByteArray} {k j : Nat}
theorem kv_at_none (hlt : k < s.size) (hj : tw nbB (s.data.toList.drop k) + k = j) (hc : j = k ∨ s.size ≤ j ∨ s.data.toList[j]? ≠ some 61) :
    kv (s.data.toList.drop k) = kv (s.data.toList.drop (max j (k + 1))) := by
  rw [kv_step (drop_ne hlt)]
  have e : kvStep (s.data.toList.drop k) = (none, max (tw nbB (s.data.toList.drop k)) 1) := by
    unfold kvStep
    rw [if_pos]
    have h2 : s.data.toList.length = s.size := rfl
    rw [get_drop, Nat.add_comm k, hj, List.length_drop]
    rcases hc with h | h | h
    · left; omega
    · right; left; omega
    · right; right; exact h
  rw [e]
  simp only [Option.toList_none, List.nil_append, List.drop_drop]
  congr 2
  omega
theorem kv_at_some (hlt : k < s.size) (hj : tw nbB (s.data.toList.drop k) + k = j) (hne : j ≠ k) (h61 : s.data.toList[j]? = some 61) :
    kvStep (s.data.toList.drop k) = if valLen (s.data.toList.drop (j + 1)) = 0 then (none, tw nbB (s.data.toList.drop k) + 1) else
      (some ((s.data.toList.drop k).take (j - k), (s.data.toList.drop (j + 1)).take (valLen (s.data.toList.drop (j + 1)))), tw nbB (s.data.toList.drop k) + 1 + valLen (s.data.toList.drop (j + 1))) := by
  unfold kvStep
  have h2 : s.data.toList.length = s.size := rfl
  have h3 := (List.getElem?_eq_some_iff.1 h61).1
  rw [if_neg]
  · rw [List.drop_drop, show k + (tw nbB (s.data.toList.drop k) + 1) = j + 1 by omega, show tw nbB (s.data.toList.drop k) = j - k by omega]
  · rw [get_drop, Nat.add_comm k, hj, List.length_drop]
    rintro (h | h | h)
    · omega
    · omega
    · exact h h61
theorem kv_at_zero (hlt : k < s.size) (hj : tw nbB (s.data.toList.drop k) + k = j) (hne : j ≠ k) (h61 : s.data.toList[j]? = some 61) (hv : valLen (s.data.toList.drop (j + 1)) = 0) :
    kv (s.data.toList.drop k) = kv (s.data.toList.drop (j + 1)) := by
  rw [kv_step (drop_ne hlt), kv_at_some hlt hj hne h61, if_pos hv]
  simp only [Option.toList_none, List.nil_append, List.drop_drop]
  congr 2
  omega
theorem kv_at_pair (hlt : k < s.size) (hj : tw nbB (s.data.toList.drop k) + k = j) (hne : j ≠ k) (h61 : s.data.toList[j]? = some 61) (hv : valLen (s.data.toList.drop (j + 1)) ≠ 0) :
    kv (s.data.toList.drop k) = ((s.data.toList.drop k).take (j - k), (s.data.toList.drop (j + 1)).take (valLen (s.data.toList.drop (j + 1)))) :: kv (s.data.toList.drop (j + 1 + valLen (s.data.toList.drop (j + 1)))) := by
  rw [kv_step (drop_ne hlt), kv_at_some hlt hj hne h61, if_neg hv]
  simp only [Option.toList_some, List.singleton_append, List.drop_drop]
  congr 3
  omega
end
theorem get_at {s : ByteArray} {j : Nat} (h : j < s.size) : s.data.toList[j]? = some s[j] := List.getElem?_eq_getElem (by simpa using h)

theorem kv_cells {w : World} {B E n : Nat} {v : Value} {xs : List Value} {a b : ByteArray} {x y : List UInt8} (h : w.ownsRow B E 2 v n (xs ++ [.string a, .string b])) (ha : a = bs x) (hb : b = bs y) :
    w.ownsRow B E 2 v n (xs ++ pairCells (x, y)) := by subst ha; subst hb; exact h

set_option maxRecDepth 100000 in
set_option maxHeartbeats 1000000 in
theorem re_any (s : ByteArray) (w : World) (hs : s.size ≤ 1000000) :
    Calls Try.prog 13 #[.string s] w fun e w' => ∃ v, e = .returned v ∧ w'.ownsRow w.heap.size 31 2 v (kv s.data.toList).length (pairsCells (kv s.data.toList)) ∧ Below w.heap.size w w' := by
  go_enter Try.func13, Try.ntmps13
  go_wp2
  go_loopw [3, 4] (fun v i wr => KvRel w.heap.size w s v i wr) (fun _ i _ => s.size - (intOf i).toNat)
  case atStart => exact ⟨0, [], by omega, by simp, rfl, World.ownsRow_nil _ _ _ _, Below.refl _ _, rfl⟩
  case round =>
    obtain ⟨k, ps, hk, hps, rfl, hown, hbel, hkv⟩ := hrel
    have HK := Lib.hid hkv
    have HO := Lib.hid hown
    have HB := Lib.hid hbel
    clear hkv hown hbel
    by_cases hlt : k < s.size
    · go_wp2
      go_loop [5] (fun e => ∃ j : Nat, k ≤ j ∧ j ≤ s.size ∧ e = .int .i64 j ∧ Hid (tw nbB (s.data.toList.drop j) + j = tw nbB (s.data.toList.drop k) + k)) (fun e => s.size - (intOf e).toNat)
      case atStart => exact ⟨k, by omega, by omega, rfl, Lib.hid rfl⟩
      case round =>
        obtain ⟨j, hkj, hjs, rfl, HT⟩ := hrel
        by_cases hj : j < s.size
        · have HA := Lib.hid (tw_at (p := nbB) hj)
          by_cases hn : nbI (s[j].toNat : Int) = true
          · have HN : Hid (tw nbB (s.data.toList.drop (j + 1)) + (j + 1) = tw nbB (s.data.toList.drop k) + k) := Lib.hid (by have := HT.out; have h2 := HA.out; rw [if_pos (show nbB s[j] = true from hn)] at h2; omega)
            go_wp2_with (go_at_call 25; refine (nameByte_any _ _).mono ?_; rintro e w' ⟨rfl, rfl⟩)
            go_round
            case rel => exact ⟨j + 1, by omega, by omega, by go_num, HN⟩
            case measure => simp [intOf]; omega
          · have hn : nbI (s[j].toNat : Int) = false := by simpa using hn
            go_wp2_with fail
            refine (nameByte_any _ _).mono ?_
            rintro e w' ⟨rfl, rfl⟩
            have hjt : tw nbB (s.data.toList.drop k) + k = j := by have := HT.out; have h2 := HA.out; rw [if_neg (by show ¬ nbI _ = true; rw [hn]; decide)] at h2; omega
            have HJ := Lib.hid hjt
            clear hjt HA HT
            by_cases hjk : j = k
            · have HN : Hid (ps ++ kv (s.data.toList.drop (k + 1)) = kv s.data.toList) := Lib.hid (by rw [← HK.out, kv_at_none hlt HJ.out (.inl hjk), Nat.max_eq_right (by omega)])
              subst hjk
              go_wp2
              go_roundw
              case rel => exact ⟨j + 1, ps, by omega, by omega, by go_num, HO.out, HB.out, HN.out⟩
              case measure => simp [intOf]; omega
            · have hb1 : ((j : Int) == (k : Int)) = false := by rw [beq_eq_false_iff_ne]; omega
              have hb3 : ((j : Int) == (s.size : Int)) = false := by rw [beq_eq_false_iff_ne]; omega
              by_cases h61 : s[j] = 61
              · have hc1 : ((s[j].toNat : Int) != 61) = false := bNe_no (c := 61) rfl h61
                have h61' : s.data.toList[j]? = some 61 := by rw [get_at hj, h61]
                have hv := valLen_le (s.data.toList.drop (j + 1))
                have hvl : valLen (s.data.toList.drop (j + 1)) ≤ s.size - (j + 1) := by have h2 : s.data.toList.length = s.size := rfl; rw [List.length_drop] at hv; omega
                have HZ : valLen (s.data.toList.drop (j + 1)) = 0 → Hid (ps ++ kv (s.data.toList.drop (j + 1)) = kv s.data.toList) := fun h0 => Lib.hid (by rw [← HK.out, kv_at_zero hlt HJ.out hjk h61' h0])
                have HP : valLen (s.data.toList.drop (j + 1)) ≠ 0 → Hid ((ps ++ [((s.data.toList.drop k).take (j - k), (s.data.toList.drop (j + 1)).take (valLen (s.data.toList.drop (j + 1))))]) ++ kv (s.data.toList.drop (j + 1 + valLen (s.data.toList.drop (j + 1)))) = kv s.data.toList) := fun h0 => Lib.hid (by rw [← HK.out, kv_at_pair hlt HJ.out hjk h61' h0, List.append_assoc]; rfl)
                have HZ := Lib.hid HZ
                have HP := Lib.hid HP
                have hcon := value_any (s.extract (j + 1) s.size) wr (by simp [maxLen]; omega)
                rw [ext_end] at hcon
                generalize hgv : valLen (s.data.toList.drop (j + 1)) = vl at *
                have HV := Lib.hid hgv
                have HC := Lib.hid hcon
                clear hgv hcon hv h61 h61'
                go_wp2_with fail
                refine HC.out.mono ?_
                rintro e w' ⟨rfl, rfl⟩
                by_cases h0 : vl = 0
                · have hb2 : ((vl : Int) == 0) = true := by rw [h0]; rfl
                  have HN := HZ.out h0
                  clear h0
                  go_wp2
                  go_roundw
                  case rel => exact ⟨j + 1, ps, by omega, by omega, by go_num, HO.out, HB.out, HN.out⟩
                  case measure => simp [intOf]; omega
                · have hb2 : ((vl : Int) == 0) = false := by rw [beq_eq_false_iff_ne]; omega
                  have HN := HP.out h0
                  clear h0
                  have hbase : w.heap.size ≤ wr.heap.size := HB.out.size
                  have hlim : (ps.length + 1) * 32 ≤ 140737488355328 := by omega
                  go_wp2
                  have x1 : 0 ≤ (j : Int) + 1 := by omega
                  have x2 : (j : Int) + 1 ≤ (j : Int) + 1 + vl := by omega
                  have x3 : (j : Int) + 1 + vl ≤ (s.size : Int) := by omega
                  have x4 : 0 ≤ (j : Int) + 1 + vl := by omega
                  have x5 : IntKind.i64.wrap ((j : Int) + 1) = (j : Int) + 1 := IntWalk.i64_in _ (by omega)
                  have x6 : IntKind.i64.wrap ((j : Int) + 1 + vl) = (j : Int) + 1 + vl := IntWalk.i64_in _ (by omega)
                  have x7 : ((j : Int) + 1).toNat = j + 1 := by omega
                  have x8 : ((j : Int) + 1 + vl).toNat = j + 1 + vl := by omega
                  go_region_law ((refine step_push (w0 := w) (W := wr.drew) w.heap.size w.heap.size rfl _ _ 29 31 _ 2 32 rfl Try.underlying29 infoPair rfl (by decide) (by decide) u3 ps.length (pairsCells ps) [.string (s.extract k j), .string (s.extract (j + 1) (j + 1 + vl))] rfl rfl rfl (by simp [Value.oneCell']) HO.out.drew HB.out.drew (Nat.le_refl _) hbase hlim ?_); intro v1 w1 hown1 hbel1 hgrow1)
                  all_goals
                    have HO1 := Lib.hid hown1
                    have HB1 := Lib.hid hbel1
                    clear hown1 hbel1 hgrow1 x1 x2 x3 x4 x5 x6 x7 x8
                    go_wp2
                    go_roundw
                    case rel => exact ⟨j + 1 + vl, ps ++ [_], by omega, by simp; omega, by go_num, by rw [List.length_append, pairsCells_snoc]; exact kv_cells HO1.out (ext_mid s k j) (by rw [ext_mid, Nat.add_sub_cancel_left]), HB1.out, HN.out⟩
                    case measure => simp [intOf]; omega
              · have hc1 : ((s[j].toNat : Int) != 61) = true := bNe_yes (c := 61) rfl h61
                have HN : Hid (ps ++ kv (s.data.toList.drop j) = kv s.data.toList) := Lib.hid (by
                  have h1 : s.data.toList[j]? ≠ some 61 := by rw [get_at hj]; simpa using h61
                  rw [← HK.out, kv_at_none hlt HJ.out (.inr (.inr h1)), Nat.max_eq_left (by omega)])
                clear h61
                go_wp2
                go_roundw
                case rel => exact ⟨j, ps, by omega, by omega, by go_num, HO.out, HB.out, HN.out⟩
                case measure => simp [intOf]; omega
        · have hjt : tw nbB (s.data.toList.drop k) + k = j := by have := HT.out; rw [tw_end (by omega)] at this; omega
          have HN : Hid (ps ++ kv (s.data.toList.drop j) = kv s.data.toList) := Lib.hid (by
            rw [← HK.out, kv_at_none hlt hjt (.inr (.inl (by omega))), Nat.max_eq_left (by omega)])
          have hb1 : ((j : Int) == (k : Int)) = false := by rw [beq_eq_false_iff_ne]; omega
          have hb3 : ((j : Int) == (s.size : Int)) = true := by rw [beq_iff_eq]; omega
          clear hjt HT
          go_wp2
          go_roundw
          case rel => exact ⟨j, ps, by omega, by omega, by go_num, HO.out, HB.out, HN.out⟩
          case measure => simp [intOf]; omega
    · go_wp2
      go_ret
      have e := HK.out
      rw [List.drop_eq_nil_of_le (by have h2 : s.data.toList.length = s.size := rfl; omega), kv_nil, List.append_nil] at e
      rw [← e]
      exact ⟨_, rfl, HO.out, HB.out⟩

end Go.Proofs.Ytlphcidpaidclaa
