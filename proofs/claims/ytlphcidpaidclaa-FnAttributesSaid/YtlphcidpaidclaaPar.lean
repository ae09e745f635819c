/-
  The contract of m3u8's decodeParamsLine and DecodeAttributeList: a new map that holds the pairs that reKeyValue finds, one after the other, each value without blanks and quotes at its ends.
-/
import Derived.Test.YtlphcidpaidclaaKv
import Derived.Maps.Own
import Derived.Maps.StringElems
namespace Go.Proofs.Ytlphcidpaidclaa
open Go.RowKit Go.Maps

theorem keyS : Keyed Try.prog 9 := string_keyed Try.underlying9
theorem keyS_of (l : List UInt8) (h : l.length ≤ maxLen) : keyOf Try.prog 9 (.string (bs l)) = some (.string l) := WideMaps.keyOf_string_mk (s := bs l) Try.underlying9 h
theorem elemS (l : List UInt8) (h : l.length ≤ maxLen) : plainElem (H := Unit) Try.prog 9 (.string (bs l)) = some (.lit (.string l), []) := plainElem_string (s := bs l) Try.underlying9 h

/-- pairs put into a map, one after the other -/
def putAll (D : DataW Unit) (ps : List (List UInt8 × List UInt8)) : DataW Unit := ps.foldl (fun D p => D.put (.string p.1) (.lit (.string p.2))) D
theorem putAll_snoc (D : DataW Unit) (ps : List (List UInt8 × List UInt8)) (p : List UInt8 × List UInt8) : putAll D (ps ++ [p]) = (putAll D ps).put (.string p.1) (.lit (.string p.2)) := by simp [putAll]
/-- what decodeParamsLine puts -/
def params (l : List UInt8) : List (List UInt8 × List UInt8) := (kv l).map fun p => (p.1, trimQ p.2)
abbrev mapRow (w : World) (b n : Nat) (ps : List (List UInt8 × List UInt8)) : Prop := w.ownsMap Try.prog 9 (plainElem (H := Unit) Try.prog 9) b n (putAll (.map []) ps)

theorem mapRow_below {w w' : World} {B b n : Nat} {ps : List (List UInt8 × List UInt8)} (h : mapRow w b n ps) (hb : Below B w w') (hlt : b < B) : mapRow w' b n ps := by
  obtain ⟨es, clock, hh, r⟩ := h
  exact ⟨es, clock, (hb.block b hlt).trans hh, r⟩

theorem kvStep_fits (l : List UInt8) (p : List UInt8 × List UInt8) (h : (kvStep l).1 = some p) : p.1.length ≤ l.length ∧ p.2.length ≤ l.length := by
  unfold kvStep at h
  split at h
  · cases h
  · split at h
    · cases h
    · simp only [Option.some.injEq] at h
      subst h
      simp only [List.length_take, List.length_drop]
      omega
theorem kv_fits (m : Nat) : ∀ l : List UInt8, l.length ≤ m → (kv l).length ≤ l.length ∧ ∀ p ∈ kv l, p.1.length ≤ l.length ∧ p.2.length ≤ l.length := by
  induction m with
  | zero => intro l h; obtain rfl := List.eq_nil_of_length_eq_zero (Nat.le_zero.1 h); simp [kv_nil]
  | succ m ih =>
    intro l h
    by_cases e : l = []
    · subst e; simp [kv_nil]
    · have h0 : 0 < l.length := List.length_pos_iff.2 e
      have h1 := kvStep_pos l
      have h2 := ih (l.drop (kvStep l).2) (by simp; omega)
      rw [kv_step e]
      simp only [List.length_drop] at h2
      cases hs : (kvStep l).1 with
      | none =>
        simp only [Option.toList_none, List.nil_append]
        exact ⟨by omega, fun p hp => by have := h2.2 p hp; omega⟩
      | some q =>
        simp only [Option.toList_some, List.singleton_append, List.length_cons]
        refine ⟨by omega, fun p hp => ?_⟩
        rcases List.mem_cons.1 hp with rfl | hp
        · exact kvStep_fits l p hs
        · have := h2.2 p hp; omega
theorem dropW_len (p : UInt8 → Bool) (l : List UInt8) : (l.dropWhile p).length ≤ l.length := by
  induction l with
  | nil => simp
  | cons a t ih => simp only [List.dropWhile_cons]; split <;> simp; omega
theorem trimQ_len (l : List UInt8) : (trimQ l).length ≤ l.length := by
  unfold trimQ trimR
  rw [List.length_reverse]
  have h1 := dropW_len pT (l.dropWhile pT).reverse
  have h2 := dropW_len pT l
  simp at h1; omega

theorem pairsCells_at (ps : List (List UInt8 × List UInt8)) : ∀ (k : Nat) (h : k < ps.length), (pairsCells ps)[2 * k]? = some (.string (bs ps[k].1)) ∧ (pairsCells ps)[2 * k + 1]? = some (.string (bs ps[k].2)) := by
  induction ps with
  | nil => intro k h; simp at h
  | cons p t ih =>
    intro k h
    cases k with
    | zero => simp [pairsCells, pairCells]
    | succ k =>
      have := ih k (by simpa using h)
      have e : pairsCells (p :: t) = pairCells p ++ pairsCells t := by simp [pairsCells]
      rw [e, List.getElem?_append_right (by simp [pairCells]; omega), List.getElem?_append_right (by simp [pairCells]; omega)]
      simpa [pairCells, show 2 * (k + 1) - 2 = 2 * k by omega, show 2 * (k + 1) + 1 - 2 = 2 * k + 1 by omega] using this

/-- what holds at the head of a round of decodeParamsLine -/
def DpRel (B : Nat) (w : World) (v : Value) (qs : List (List UInt8 × List UInt8)) (i : Value) (wr : World) : Prop :=
  ∃ k : Nat, k ≤ qs.length ∧ i = .int .i64 k ∧ wr.ownsRow (B + 1) 31 2 v qs.length (pairsCells qs) ∧ mapRow wr B k ((qs.take k).map fun p => (p.1, trimQ p.2)) ∧ Below B w wr ∧ B < wr.heap.size

theorem dp_start {w w1 : World} {v : Value} {qs : List (List UInt8 × List UInt8)} (hown : w1.ownsRow (w.heap.size + 1) 31 2 v qs.length (pairsCells qs)) (hbel : Below (w.heap.size + 1) (w.alloc (.map #[] 0)) w1) :
    DpRel w.heap.size w v qs (.int .i64 0) w1 := by
  have hsz := hbel.size
  simp only [World.size_alloc] at hsz
  exact ⟨0, by omega, rfl, hown, mapRow_below (World.ownsMap_made w Try.prog 9 _) hbel (by omega), ((Below.refl _ _).alloc (Nat.le_refl _) _).trans (hbel.mono (by omega)), by omega⟩

theorem drewMap {P : Program} {k b n : Nat} {R : Value → Option (DataW Unit × List MemPlace)} {D : DataW Unit} {w : World} (q : Nat) (h : w.ownsMap P k R b n D) : (w.drewN q).ownsMap P k R b n D := h
theorem dp_step {B nq k g cap : Nat} {w wx w2 : World} {qs : List (List UInt8 × List UInt8)} {a b : List UInt8} (hlt : k < qs.length)
    (ht : (qs.take (k + 1)).map (fun p => (p.1, trimQ p.2)) = (qs.take k).map (fun p => (p.1, trimQ p.2)) ++ [(a, trimQ b)])
    (ho : wx.ownsRow (B + 1) 31 2 (.slice (some ⟨g, 0, none⟩) qs.length cap) qs.length (pairsCells qs)) (hg : B + 1 ≤ g)
    (hm : w2.ownsMap Try.prog 9 (plainElem (H := Unit) Try.prog 9) B (k + 1) ((putAll (.map []) ((qs.take k).map fun p => (p.1, trimQ p.2))).put (.string a) (.lit (.string (trimQ b)))))
    (hgr : (wx.drewN nq).grownBy w2 (some B)) (hb : Below B w wx) (hB : B < wx.heap.size) :
    DpRel B w (.slice (some ⟨g, 0, none⟩) qs.length cap) qs (.int .i64 ((k : Int) + 1)) w2 := by
  refine ⟨k + 1, hlt, by go_num, ?_, ?_, ?_, ?_⟩
  · exact World.ownsRow.kept (w := wx.drewN nq) ho hgr (.inr (by simp [Value.ownBlock]; omega))
  · rw [ht, mapRow, putAll_snoc]; exact hm
  · exact Below.grown (w := wx.drewN nq) ⟨hb.os, hb.tape, hb.output, hb.size, hb.block⟩ hgr (Nat.le_of_lt hB) (by simp)
  · exact Nat.lt_of_lt_of_le hB hgr.size

set_option maxRecDepth 100000 in
set_option maxHeartbeats 1000000 in
theorem par_any (s : ByteArray) (w : World) (hs : s.size ≤ 1000000) :
    Calls Try.prog 10 #[.string s] w fun e w' => e = .returned (.map (some w.heap.size)) ∧ mapRow w' w.heap.size (params s.data.toList).length (params s.data.toList) ∧ Below w.heap.size w w' := by
  have hmm := @run_makeMap Try.prog
  have hfit := kv_fits s.size s.data.toList (Nat.le_refl _)
  have hL : s.data.toList.length = s.size := rfl
  rw [hL] at hfit
  have hcon := fun w => re_any s w hs
  have HP : Hid (params s.data.toList = (kv s.data.toList).map fun p => (p.1, trimQ p.2)) := Lib.hid rfl
  generalize kv s.data.toList = qs at *
  obtain ⟨hq1, hq2⟩ := hfit
  have HQ := Lib.hid hq2
  have HC := Lib.hid hcon
  clear hq2 hcon hL
  go_enter Try.func10, Try.ntmps10
  go_wp2_with fail
  refine (HC.out _).mono ?_
  rintro e w1 ⟨v, rfl, hown, hbel⟩
  simp only [World.size_alloc] at hown hbel
  obtain ⟨ao, cap, rfl, hmax⟩ := own_shape hown
  have HS := Lib.hid (dp_start hown hbel)
  clear hown hbel
  go_wp2
  go_loopw [12] (fun i wr => DpRel w.heap.size w (.slice ao qs.length cap) qs i wr) (fun i _ => qs.length - (intOf i).toNat)
  case atStart => exact HS.out
  case round =>
    obtain ⟨k, hk, rfl, hown, hmap, hbel, hB⟩ := hrel
    by_cases hlt : k < qs.length
    · obtain ⟨g, rfl⟩ : ∃ g, ao = some ⟨g, 0, none⟩ := by
        rcases hown.2 with ⟨_, h0⟩ | ⟨g, cap', cur, hv, _⟩
        · omega
        · simp only [Value.slice.injEq] at hv; exact ⟨g, hv.1⟩
      have hc := pairsCells_at qs k hlt
      have c0 : wr.cell? ⟨g, k * 2, none⟩ = some (.string (bs qs[k].1)) := by rw [hown.cellAt _ (by omega), Nat.mul_comm]; exact hc.1
      have c1 : wr.cell? ⟨g, k * 2 + 1, none⟩ = some (.string (bs qs[k].2)) := by rw [hown.cellAt _ (by omega), Nat.mul_comm]; exact hc.2
      have HO := Lib.hid hown
      have HM := Lib.hid hmap
      have HB := Lib.hid hbel
      clear hown hmap hbel hc
      have hf := HQ.out _ (List.getElem_mem hlt)
      have HT : Hid ((qs.take (k + 1)).map (fun p => (p.1, trimQ p.2)) = (qs.take k).map (fun p => (p.1, trimQ p.2)) ++ [(qs[k].1, trimQ qs[k].2)]) := Lib.hid (by rw [List.take_succ_eq_append_getElem hlt, List.map_append]; rfl)
      generalize qs[k].1 = a at *
      generalize qs[k].2 = b at *
      have ht := trimQ_len b
      have hka := keyS_of a (by unfold maxLen; omega)
      have hkb := elemS (trimQ b) (by unfold maxLen; omega)
      have HKA := Lib.hid hka
      have HKB := Lib.hid hkb
      clear hka hkb
      go_wp2
      go_quiet (fail)
      have HM1 := Lib.hid (HM.out.alloc (.cells #[.string (bs a), .string (bs b)] 31))
      go_wp2_with (first | (go_at_call 14; refine (trim_any (bs b) _ (by rw [size_bs]; unfold maxLen; omega)).mono ?_; rintro e w' ⟨rfl, rfl⟩) | (at_mapUpdate; refine wpList_mapUpdate_own _ rfl _ _ _ 23 rfl 9 9 keyS Try.underlying23 (plainElem (H := Unit) Try.prog 9) w.heap.size k (putAll (.map []) ((qs.take k).map fun p => (p.1, trimQ p.2))) rfl (drewMap _ HM1.out) (by unfold maxLen; omega) _ _ (.string a) rfl rfl HKA.out (.lit (.string (trimQ b))) [] HKB.out ?_; intro w2 hm2 hg2))
      have HM2 := Lib.hid hm2
      have HG2 := Lib.hid hg2
      clear hm2 hg2
      go_wp2
      go_roundw
      case rel => exact dp_step hlt HT.out (HO.out.alloc _) (HO.out.lt _ rfl).1 HM2.out HG2.out (HB.out.alloc (by omega) _) (by simpa using Nat.lt_succ_of_lt hB)
      case measure => simp [intOf]; omega
    · go_wp2
      go_ret
      obtain rfl : k = qs.length := by omega
      rw [HP.out]
      rw [List.take_length] at hmap
      exact ⟨rfl, by simpa using hmap, hbel⟩
end Go.Proofs.Ytlphcidpaidclaa
