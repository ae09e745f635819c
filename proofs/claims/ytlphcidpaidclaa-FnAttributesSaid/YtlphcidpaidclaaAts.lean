/-
  The contract of impl.Attributes: the pairs of a list of attributes of different names, ascending by their names, in a row that the call has made.
-/
import Derived.Test.YtlphcidpaidclaaSrt
namespace Go.Proofs.Ytlphcidpaidclaa
open Go.RowKit Go.Maps

theorem ats_strict {ps qs : Pairs} (hnd : (ps.map (·.1)).Nodup) (hp : qs.Perm ps) (hs : qs.Pairwise (fun x y => ¬ y.1 < x.1)) : qs.Pairwise (fun x y => x.1 < y.1) := by
  have hq : (qs.map (·.1)).Nodup := (hp.map _).nodup_iff.2 hnd
  have hne : qs.Pairwise (fun x y => x.1 ≠ y.1) := by
    have := List.nodup_iff_pairwise_ne.1 hq
    exact List.pairwise_map.1 this
  refine (hs.and hne).imp ?_
  rintro x y ⟨h1, h2⟩
  by_cases h : x.1 < y.1
  · exact h
  · exact absurd (List.le_antisymm (List.not_lt.1 h1) (List.not_lt.1 h)) h2

set_option maxRecDepth 100000 in
set_option maxHeartbeats 1000000 in
theorem attributes_any (s : ByteArray) (w : World) (hs : s.size ≤ 8192) (hnd : ((params s.data.toList).map (·.1)).Nodup) (hlen : (params s.data.toList).length ≤ 12) :
    Calls Try.prog 6 #[.string s] w fun e w' => ∃ (v : Value) (qs : Pairs), e = .returned v ∧ qs.Perm (params s.data.toList) ∧ qs.Pairwise (fun x y => x.1 < y.1) ∧ w'.ownsRow w.heap.size 31 2 v qs.length (pairsCells qs) ∧ Below w.heap.size w w' := by
  have hcon := fun w => attrs_any s w (by omega)
  generalize params s.data.toList = ps at *
  have HC := Lib.hid hcon
  have HN := Lib.hid hnd
  clear hcon hnd
  go_enter Try.func6, Try.ntmps6
  go_wp2_with fail
  refine (HC.out _).mono ?_
  rintro e w1 ⟨rfl, hmap, hbel⟩
  have hlt1 := hmap.lt
  have HM := Lib.hid hmap
  have HB := Lib.hid hbel
  clear hmap hbel
  go_wp2_with (at_range; refine wpList_range_own _ rfl _ 23 rfl 9 9 keyS Try.underlying23 (plainElem (H := Unit) Try.prog 9) w.heap.size ps.length (putAll (.map []) ps) rfl HM.out ?_; intro w0 hrg0 hg0 hs0)
  go_frame
  have HS : Hid (ArRel w.heap.size w w.heap.size w1.heap.size ps.length ps (.slice none 0 0) w0) := Lib.hid (ar_start hrg0 (HB.out.grown hg0 (by omega) (by simp)))
  clear hrg0 hg0
  go_loopw [3] (fun v wr => ArRel w.heap.size w w.heap.size w1.heap.size ps.length ps v wr) (fun _ wr => wr.rangeLeft w.heap.size w1.heap.size)
  case atStart => exact HS.out
  case round =>
    obtain ⟨cs, left, cnt, hrg, hown, hbel, hleft, hcd, hcin⟩ := hrel
    have HR := Lib.hid hrg
    have HO := Lib.hid hown
    have HB := Lib.hid hbel
    have HL := Lib.hid hleft
    have HCD := Lib.hid hcd
    have HCI := Lib.hid hcin
    clear hrg hown hbel hleft hcd hcin
    go_wp2_with (at_next; refine wpList_next_ss _ rfl _ rfl 9 keyS Try.underlying9 w.heap.size w1.heap.size ps.length (putAll (.map []) ps) left cnt rfl HR.out ?_ ?_)
    · intro h0 hl
      have HP := Lib.hid (ar_done HN.out hl HL.out HCD.out HCI.out)
      clear h0 hl
      have hcl : cs.length ≤ 12 := by rw [HP.out.length_eq]; omega
      have hnn : cs.length = 0 ∨ 0 < cs.length := by omega
      rcases HO.out.2 with ⟨rfl, hn⟩ | ⟨g, cap, cur, rfl, hg, _⟩
      · obtain rfl : cs = [] := List.eq_nil_of_length_eq_zero hn
        go_wp2_with (go_at_call 8; refine (sort_none _ _).mono ?_; rintro e w' ⟨rfl, rfl⟩)
        go_ret
        exact ⟨_, [], rfl, HP.out, List.Pairwise.nil, World.ownsRow_nil _ _ _ _, HB.out⟩
      · have HS := Lib.hid (sort_any w.heap.size HO.out (by omega) hcl)
        go_wp2_with (go_at_call 8; refine HS.out.mono ?_; rintro e w' ⟨rfl, qs, hp, hs, ho, hb⟩)
        go_ret
        refine ⟨_, qs, rfl, hp.trans HP.out, ats_strict HN.out (hp.trans HP.out) hs, ?_, HB.out.trans hb⟩
        rw [hp.length_eq]
        exact own_weaken ho (by omega)
    · intro x c w2 cnt2 hlk hat hrg2 hlt2 hg2 hs2 hen
      have hr : w1.heap.size < wr.heap.size := HR.out.lt
      have hcome := ar_come HN.out HL.out hlk hat
      have HO2 := Lib.hid (HO.out.kept hg2 (.inr (fun e => by have := own_base HO.out _ e; omega)))
      have HB2 := Lib.hid (HB.out.grown hg2 (by omega) (fun k hk => by cases hk; omega))
      have HR2 := Lib.hid hrg2
      have HLT := Lib.hid hlt2
      have hcl : cs.length ≤ ps.length := length_le_of_nodup cs ps (nodup_of_map _ _ HCD.out) HCI.out
      have HCM := Lib.hid hcome
      have HE := Lib.hid HR.out.left_eq
      have hbase : w1.heap.size + 1 ≤ w2.heap.size := by omega
      have hlim : (cs.length + 1) * 32 ≤ 140737488355328 := by omega
      clear hlk hat hrg2 hlt2 hg2 hcome hs2
      go_wp2_with (at_builtin; refine wpList_push (w0 := w) rfl (w1.heap.size + 1) w.heap.size _ _ 29 31 _ 2 32 rfl Try.underlying29 infoPair rfl (by decide) (by decide) u3 cs.length (pairsCells cs) [.string x, .string c] rfl rfl rfl (by simp [Value.oneCell']) HO2.out HB2.out (by omega) hbase hlim ?_; intro v1 w3 hown3 hbel3 hgrow3)
      have HO3 := Lib.hid hown3
      have HB3 := Lib.hid hbel3
      have HG3 := Lib.hid hgrow3
      clear hown3 hbel3 hgrow3
      go_wp2
      go_roundw
      case rel =>
        have hk := HR2.out.kept HG3.out (fun e => by have := own_base HO2.out _ e.symm; omega) (fun e => by have := own_base HO2.out _ e.symm; omega)
        refine ⟨cs ++ [(x.data.toList, c.data.toList)], _, cnt2, hk, ?_, HB3.out, ar_left HL.out, ?_, ?_⟩
        · rw [List.length_append, pairsCells_snoc]; exact kv_cells HO3.out (ofL x).symm (ofL c).symm
        · rw [List.map_append, List.nodup_append]
          refine ⟨HCD.out, by simp, fun a ha b hb => ?_⟩
          have hb : b = x.data.toList := by simpa using hb
          subst hb
          exact fun e => HCM.out.2 (by rw [← e]; exact ha)
        · intro p hp
          rcases List.mem_append.1 hp with h | h
          · exact HCI.out p h
          · have : p = (x.data.toList, c.data.toList) := by simpa using h
            rw [this]; exact HCM.out.1
      case measure =>
        have hk := HR2.out.kept HG3.out (fun e => by have := own_base HO2.out _ e.symm; omega) (fun e => by have := own_base HO2.out _ e.symm; omega)
        rw [hk.left_eq, HE.out]; exact HLT.out
end Go.Proofs.Ytlphcidpaidclaa
