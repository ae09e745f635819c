/-
  The contract of the sort in impl.Attributes: the row holds the same pairs, ascending by their names.
-/
import Derived.Test.YtlphcidpaidclaaAtt
import Derived.Test.YtlphcidpaidclaaShelf
namespace Go.Proofs.Ytlphcidpaidclaa
open Go.RowKit Go.Sort

set_option maxHeartbeats 400000 in
theorem cmp_any (a0 a1 b0 b1 : ByteArray) (W : World) :
    Calls Try.prog 9 #[.agg #[.string a0, .string a1], .agg #[.string b0, .string b1]] W fun e w' => e = .returned (.int .i64 (if Op.bytesLess a0.toList b0.toList then -1 else 1)) ∧ ∃ q os', w' = grow (W.drewN q) os' := by
  cases h : Op.bytesLess a0.toList b0.toList
  all_goals
    go_enter Try.func9, Try.ntmps9
    go_wp2
    go_ret
    exact ⟨by simp, 0, _, by rw [alloc_eq_grow, alloc_eq_grow, grow_grow]; rfl⟩

/-! ### the row of pairs and the sort's words -/
theorem pairsCells_len (ps : Pairs) : (pairsCells ps).length = ps.length * 2 := by
  induction ps with
  | nil => rfl
  | cons p t ih =>
    have e : pairsCells (p :: t) = pairCells p ++ pairsCells t := by simp [pairsCells]
    rw [e, List.length_append, ih]; simp [pairCells]; omega
theorem flat_at (ps : Pairs) (t : Nat) (h : t < ps.length * 2) : (pairsCells ps)[t]? = some (flatK pairCells 2 ps.toArray)[t]! := by
  have hk : t / 2 < ps.length := by omega
  rw [get_flatK _ _ _ _ (by simpa using h)]
  have h2 := pairsCells_at ps (t / 2) hk
  have e : ps.toArray[t / 2]! = ps[t / 2] := by simp [hk]
  rw [e]
  rcases Nat.mod_two_eq_zero_or_one t with hm | hm
  · rw [hm]
    have : (pairsCells ps)[t]? = (pairsCells ps)[2 * (t / 2)]? := by rw [show 2 * (t / 2) = t by omega]
    rw [this, h2.1]; rfl
  · rw [hm]
    have : (pairsCells ps)[t]? = (pairsCells ps)[2 * (t / 2) + 1]? := by rw [show 2 * (t / 2) + 1 = t by omega]
    rw [this, h2.2]; rfl
theorem flat_list (ps : Pairs) : (flatK pairCells 2 ps.toArray).toList = pairsCells ps := by
  refine List.ext_getElem? fun t => ?_
  by_cases h : t < ps.length * 2
  · rw [flat_at ps t h]
    have hs : t < (flatK pairCells 2 ps.toArray).size := by simpa using h
    rw [getElem!_pos _ t hs]
    simp
  · rw [List.getElem?_eq_none (by simp; omega), List.getElem?_eq_none (by rw [pairsCells_len]; omega)]
theorem own_holds {w : World} {B E n g cap : Nat} {ps : Pairs} (h : w.ownsRow B E 2 (.slice (some ⟨g, 0, none⟩) n cap) n (pairsCells ps)) : HoldsK pairCells 2 w g 0 ps.toArray := by
  have hl : n = ps.length := by have := h.1; rw [pairsCells_len] at this; omega
  intro j hj
  have hj' : j < ps.length * 2 := by simpa using hj
  constructor
  · rw [Nat.zero_add, h.cellAt j (by omega), flat_at ps j hj']; rfl
  · rw [Nat.zero_add]; exact h.frozenAt j
theorem sorted_own {w : World} {B E n g cap m : Nat} {ps qs : Pairs} {os : Array Obj} (h : w.ownsRow B E 2 (.slice (some ⟨g, 0, none⟩) n cap) n (pairsCells ps)) (hq : qs.length = ps.length) :
    (sortWorldK pairCells 2 w g 0 m qs.toArray os).ownsRow B E 2 (.slice (some ⟨g, 0, none⟩) n cap) n (pairsCells qs) := by
  obtain ⟨h1, h2⟩ := h
  rw [pairsCells_len] at h1
  refine ⟨by rw [pairsCells_len]; omega, ?_⟩
  rcases h2 with ⟨h2, _⟩ | ⟨g', cap', cur, hv, hB, hg, hnc, hcm, hcs, htk⟩
  · cases h2
  · simp only [Value.slice.injEq, Option.some.injEq, Addr.mk.injEq, and_true, true_and] at hv
    obtain ⟨rfl, rfl⟩ := hv
    have hlt : g < w.heap.size := (Array.getElem?_eq_some_iff.1 hg).1
    refine Or.inr ⟨g, cap, putCells id 0 (flatK pairCells 2 qs.toArray) cur, rfl, hB, ?_, hnc, hcm, by simp [putCells, hcs], ?_⟩
    · have : (sortWorldK pairCells 2 w g 0 m qs.toArray os).heap[g]? = (putRow id w g 0 (flatK pairCells 2 qs.toArray)).heap[g]? := heap_grow_old _ _ (by simpa [putRowK, putRow, mapBlock, ahead] using hlt)
      rw [this]
      simp [putRow, mapBlock, Array.getElem?_modify, hg, onCells]
    · rw [← flat_list qs]
      have hsz : (flatK pairCells 2 qs.toArray).size = n * 2 := by simp; omega
      refine List.ext_getElem? fun t => ?_
      rw [List.getElem?_take]
      by_cases ht : t < n * 2
      · rw [if_pos ht]
        have hc : t < cur.size := by have := Nat.mul_le_mul_right 2 hnc; omega
        have hs : t < (flatK pairCells 2 qs.toArray).size := by omega
        simp only [putCells, Array.getElem?_toList, Array.getElem?_mapIdx, Array.getElem?_eq_getElem hc, Option.map_some, Nat.zero_le, true_and, Nat.zero_add, Nat.sub_zero]
        rw [if_pos hs, getElem!_pos _ t hs, Array.getElem?_eq_getElem hs]; rfl
      · rw [if_neg ht, List.getElem?_eq_none (by simp; omega)]
theorem sorted_below {w : World} {g m : Nat} {qs : Pairs} {os : Array Obj} (B : Nat) (hB : B ≤ g) (hlt : g < w.heap.size) : Go.RowKit.Below B w (sortWorldK pairCells 2 w g 0 m qs.toArray os) := by
  refine ⟨rfl, rfl, rfl, by simp [sortWorldK, grow, putRowK, putRow, mapBlock], fun k hk => ?_⟩
  have : (sortWorldK pairCells 2 w g 0 m qs.toArray os).heap[k]? = (putRow id w g 0 (flatK pairCells 2 qs.toArray)).heap[k]? := heap_grow_old _ _ (by simp [putRowK, putRow, mapBlock]; omega)
  rw [this]
  simp only [putRow, mapBlock, Array.getElem?_modify]
  rw [if_neg (by omega)]

/-! ### the order -/
def cf (x y : List UInt8 × List UInt8) : Int := if decide (x.1 < y.1) then -1 else 1
theorem lt_cf (x y : List UInt8 × List UInt8) : ltOf cf x y = decide (x.1 < y.1) := by
  unfold ltOf cf
  by_cases h : x.1 < y.1 <;> simp [h]
theorem swo_cf : SWO (ltOf cf) where
  irrefl x := by rw [lt_cf]; simp
  trans x y z := by rw [lt_cf, lt_cf, lt_cf]; simpa using fun h1 h2 => List.lt_trans h1 h2
  ntrans x y z := by rw [lt_cf, lt_cf, lt_cf]; simpa using fun h1 h2 => List.le_trans h2 h1

theorem cmp_lays (blk off size : Nat) (w : World) : CmpLays Try.prog 9 #[] pairCells 2 cf blk off size w :=
  fun _ _ _ _ x y => (cmp_any (bs x.1) (bs x.2) (bs y.1) (bs y.2) _).mono fun _ _ ⟨he, hq⟩ => ⟨by rw [he, bytesLess_eq, Lib.toList_data, Lib.toList_data]; rfl, hq⟩
theorem len_gives (n : Nat) (W : World) (h : n ≤ 12) : Calls Try.prog 12 #[.int .u64 n] W fun e w' => (∃ l : Int, e = .returned (.int .i64 l)) ∧ w' = W :=
  (Any.bits_Len Try.bitsLen n W (by omega) (by omega)).mono fun _ _ ⟨he, hw⟩ => ⟨⟨_, he⟩, hw⟩
/-- slices.SortFunc at pairs: they stand in another order, ascending by their names -/
theorem sort_any {w : World} {B E g cap : Nat} {ps : Pairs} (B0 : Nat) (h : w.ownsRow B E 2 (.slice (some ⟨g, 0, none⟩) ps.length cap) ps.length (pairsCells ps)) (hB : B0 ≤ g) (h12 : ps.length ≤ 12) :
    Calls Try.prog 8 #[.slice (some ⟨g, 0, none⟩) ps.length cap, .func (.func 9) #[] #[]] w fun e w' => e = .returned (.tuple #[]) ∧
      ∃ qs : Pairs, qs.Perm ps ∧ qs.Pairwise (fun x y => ¬ y.1 < x.1) ∧ w'.ownsRow B E 2 (.slice (some ⟨g, 0, none⟩) ps.length cap) ps.length (pairsCells qs) ∧ Go.RowKit.Below B0 w w' := by
  have eg : ∀ args w, (callFunc 9 args).run Try.prog w = .ok (.enter 9 args) w := enters_of Try.func9 (by kernel_rfl) rfl
  have hlt : g < w.heap.size := (h.lt g rfl).2
  have hcon := AnyQ.slices_SortFunc_small_sorted Try.sortPairs 2 Try.isAgg31 Try.sizeOf31 pairCells (fun _ => rfl) (fun x v hv => by simp [pairCells] at hv; rcases hv with rfl | rfl <;> rfl) cf 9 #[] swo_cf g 0 cap ps.toArray w eg (cmp_lays g 0 _ w) (own_holds h) hlt (by simpa using h12) len_gives
  change Calls Try.prog 8 _ _ _ at hcon
  refine hcon.mono ?_
  rintro e w' ⟨rfl, d', n, os, hp, hs, rfl⟩
  obtain ⟨qs, rfl⟩ : ∃ qs : Pairs, d' = qs.toArray := ⟨d'.toList, by simp⟩
  obtain ⟨hp1, _, hp2⟩ := hp
  have hp1 : qs.length = ps.length := by simpa using hp1
  refine ⟨rfl, qs, ?_, ?_, sorted_own h hp1, sorted_below B0 hB hlt⟩
  · have e1 : (qs.toArray.extract 0 ps.toArray.size).toList = qs := by simp [← hp1]
    have e2 : (ps.toArray.extract 0 ps.toArray.size).toList = ps := by simp
    rw [e1, e2] at hp2
    exact hp2
  · rw [List.pairwise_iff_getElem]
    intro i j hi hj hij
    have := hs i j (Nat.zero_le _) hij (by simpa [← hp1] using hj)
    rw [lt_cf] at this
    simpa [hi, hj] using this

set_option maxRecDepth 100000 in
set_option maxHeartbeats 1000000 in
/-- .. at no pair -/
theorem sort_none (w : World) (cap : Nat) : Calls Try.prog 8 #[.slice none 0 cap, .func (.func 9) #[] #[]] w fun e w' => e = .returned (.tuple #[]) ∧ w = w' := by
  go_enter Try.func8, Try.ntmps8
  go_wp2_with fail
  refine (len_gives 0 _ (by omega)).mono ?_
  rintro e w' ⟨⟨l, rfl⟩, rfl⟩
  go_wp2
  refine wp_loop_rounds 1 ?_
  rw [rounds_succ]
  go_wp2
  refine wp_loop_rounds 1 ?_
  rw [rounds_succ]
  go_wp2
  go_end0
  go_wp2
  refine bodyPost_ret (results_none rfl _ _ _) rfl ?_
  go_wp2
  go_end0
  exact ⟨rfl, rfl⟩
end Go.Proofs.Ytlphcidpaidclaa
