/-
  What is proved: the law FnWrite returns true at every argument, and what it was handed reads as it did. No condition.
-/
import Derived.Test.YtlphcidpaidclaaGreatDoorJn
import Derived.Test.YtlphcidpaidclaaGreatDoorLww
import Derived.Test.YtlphcidpaidclaaGreatDoorFfl
import Derived.Test.YtlphcidpaidclaaGreatDoorTie
import Derived.SevenTiedAt
import Derived.Stop.Joined
namespace Go.Proofs.YtlphcidpaidclaaGreatDoor.fnWrite
open Go.ChangeShapes Go.WideShapes Go.ChangeAt Go.RowKit Jn
set_option linter.unusedVariables false

theorem walk (n0 : Int) (lock lead : Bool) (hn0 : 0 ≤ n0 ∧ n0 ≤ 4294967295) (a0 : Option Addr) (len0 cap0 : Nat) (z0 : List Int) (w : World) (w0 : IsRow w a0 len0 cap0 z0) (htab : TabP w) (hgt : 7 < w.heap.size) :
    Calls Tryz.prog 5 #[.slice a0 len0 cap0, .int .u32 n0, .bool lock, .bool lead] w fun e w' => e = .returned (.bool true) ∧ Below w.heap.size w w' := by
  by_cases hbig : 2147483647 < len0
  · have hb1 : decide ((2147483647 : Int) < (len0 : Int)) = true := by rw [decide_eq_true_eq]; omega
    go_enter Tryz.func5, Tryz.ntmps5
    go_wp2
    all_goals (go_ret; exact ⟨rfl, Below.refl _ _⟩)
  have hb1 : decide ((2147483647 : Int) < (len0 : Int)) = false := by rw [decide_eq_false_iff_not]; omega
  by_cases hmid : 100 < len0
  · have hb2 : decide ((100 : Int) < (len0 : Int)) = true := by rw [decide_eq_true_eq]; omega
    go_enter Tryz.func5, Tryz.ntmps5
    go_wp2
    all_goals (go_ret; exact ⟨rfl, Below.refl _ _⟩)
  obtain ⟨b, off, hu⟩ := w0.u32s (by omega)
  obtain ⟨m, rfl⟩ : ∃ m : Nat, n0 = (m : Int) := ⟨n0.toNat, by omega⟩
  exact write_walk (by omega) hu ff64 ff32 htab hgt

set_option maxRecDepth 100000 in
theorem lifted (os : Os) (started : os.Started) (H : Type) (enc : TypeId × Value → H) :
    ReturnsInHanded {} Tryz.checked os 5 .any (fun w args => (Rows.fnWriteSpec.pre enc Tryz.prog Tryz.f5 Rows.fnWriteRow.domain false w args ∧ laidMetH Tryz.prog Rows.fnWriteRow.laid w) ∧ sizedMet enc Tryz.prog Tryz.f5 (OpenSpec.ofChange Rows.fnWriteSpec) false w args)
      (Rows.fnWriteSpec.post enc Tryz.prog Tryz.f5 false true false false) := by
  refine returnsInHanded_of_change_and (C := Tryz.checked) (X := fun w _ => laidMetH Tryz.prog Rows.fnWriteRow.laid w) (fun _ _ _ hh h => h.of_heap hh) own started (by kernel_rfl) Tryz.func5
    (ChangeSpec.witness_shaped (enc := enc) (C := Tryz.checked) (os := os) (X := fun w _ => laidMetH Tryz.prog Rows.fnWriteRow.laid w) false (World.laidAll Tryz.prog os Rows.fnWriteRow.laid) #[.slice none 0 0, .int .u32 0, .bool false, .bool false] 8 (World.laidAll_os _ _ _)
      (World.shaped_of_ZipB (by kernel_rfl) (by kernel_rfl)) (by kernel_rfl) (by kernel_rfl) (by kernel_rfl)
      (by rw [MakeChecks.laidMetH_plain _ _ _ (by kernel_rfl)]; exact laidMet_laidAll _ (by kernel_rfl) (by kernel_rfl))) ?_
  intro W base args ds gs before hval0 hW hcnd _ hL _
  have hval : ∀ (j : Nat) t v, Tryz.f5.params[j]? = some t → args[j]? = some v → Value.okWide Tryz.prog W .any base t v := hval0
  have hW' := hW
  obtain ⟨p, q, hA0, hV, rfl, hfz, hnd⟩ := hW
  have hA : DataW.TrodAll enc Tryz.prog W 0 (fun _ => true) true Tryz.f5.params.toList args.toList ds p := hA0
  rw [Tryz.params5] at hA hval
  obtain ⟨v0, vs0, d0, ds0, p0, q0, hargs0, rfl, rfl, h0, r0⟩ := trodAll_cons hA
  obtain ⟨v1, vs1, d1, ds1, p1, q1, hargs1, rfl, rfl, h1, r1⟩ := trodAll_cons r0
  obtain ⟨v2, vs2, d2, ds2, p2, q2, hargs2, rfl, rfl, h2, r2⟩ := trodAll_cons r1
  obtain ⟨v3, vs3, d3, ds3, p3, q3, hargs3, rfl, rfl, h3, r3⟩ := trodAll_cons r2
  obtain ⟨rfl, rfl, rfl⟩ := trodAll_nil r3
  subst hargs3
  subst hargs2
  subst hargs1
  obtain rfl : args = #[v0, v1, v2, v3] := by cases args; simp_all
  obtain ⟨a0, len0, cap0, rfl⟩ := okWide_slice Tryz.underlying38 (hval 0 38 v0 rfl rfl)
  obtain ⟨n0, rfl, rfl, rfl, wn0⟩ := open_int Tryz.underlying39 (hval 1 39 v1 rfl rfl) h1
  obtain ⟨c0, rfl, rfl, rfl⟩ := open_bool Tryz.underlying4 (hval 2 4 v2 rfl rfl) h2
  obtain ⟨c1, rfl, rfl, rfl⟩ := open_bool Tryz.underlying4 (hval 3 4 v3 rfl rfl) h3
  have k1 := h0
  have lt1 : ∀ x ∈ p0, x.block < W.heap.size := by obtain ⟨m, hm⟩ := k1; exact DataW.trod_lt m _ _ _ hm
  obtain ⟨z0, w0⟩ := isRow_of k1
  have htab := table hL
  have hgt : 7 < W.heap.size := World.block_lt_of_cell? W _ (htab.p (351, 18014398509481984000, 0) (by decide)).1
  have hb0 : 0 ≤ n0 ∧ n0 ≤ 4294967295 := ⟨(by have h := wn0; simp [Lit.wf] at h; exact h.1), (by have h := wn0; simp [Lit.wf] at h; exact h.2)⟩
  obtain ⟨g, hgs⟩ : ∃ g, gs = [g] := by
    cases gs with
    | nil => exact hV.elim
    | cons g rest =>
      obtain ⟨_, _, _, _, _, _, _, _, _, _, hr, _⟩ := hV
      cases rest with
      | nil => exact ⟨g, rfl⟩
      | cons _ _ => exact hr.elim
  subst hgs
  clear hA0 hval0
  refine (walk n0 c0 c1 hb0 a0 len0 cap0 z0 W w0 htab hgt).mono fun e W' ⟨he, bel⟩ => ?_
  subst he
  exact ⟨_, rfl, _, _, _, [], _, _, hW', trodAll_mk1 (shut_bool Tryz.underlying4 _), (trodAll_cons_mk (Below.trod laidOut (by kernel_rfl) (of_decide_eq_true (by kernel_rfl)) k1 bel lt1) (trodAll_cons_mk (shut_int Tryz.underlying39 wn0) (trodAll_cons_mk (shut_bool Tryz.underlying4 _) (trodAll_cons_mk (shut_bool Tryz.underlying4 _) trodAll_mk0)))), Below.trodVars laidOut bel (by kernel_rfl) hV, bel.frame _, fun h => by cases h⟩

theorem said : Rows.FnWriteSaid :=
  OpenClaim.holds_of_wide 5 Tryz.f5 rfl rfl rfl rfl rfl rfl rfl ⟨rfl, rfl, rfl, rfl, rfl⟩ rfl rfl rfl rfl rfl (by kernel_rfl) Tryz.func5 (by kernel_rfl)
    (of_decide_eq_true (by kernel_rfl)) (by unfold Func.isWrapper; first | (rw [if_pos (by decide +kernel)]; kernel_rfl) | (rw [if_neg (by decide +kernel)]; exact ⟨rfl, rfl⟩))
    (fun os started H enc _ => lifted os started H enc)
theorem plain (f : FuncId) (fn : Func) (hf : Tryz.pinned.checked.prog.funcNamed "loop.example/pub-g03454/laws.FnWrite" = some f) (hfn : Tryz.pinned.checked.prog.funcs[f]? = some fn) :
    false = Tryz.pinned.checked.prog.looks [] ∧ ∀ (j : Nat) t, fn.params[j]? = some t → Tryz.pinned.checked.prog.wantsStandIn t = false := by
  obtain rfl : f = 5 := Option.some.inj ((show Tryz.prog.funcNamed "loop.example/pub-g03454/laws.FnWrite" = some 5 by kernel_rfl).symm.trans hf) |>.symm
  obtain rfl : fn = Tryz.f5 := (Option.some.inj (Tryz.func5.symm.trans hfn)).symm
  refine ⟨by kernel_rfl, fun j t ht => ?_⟩
  rw [Tryz.params5] at ht
  have hm : t ∈ [38, 39, 4, 4] := by simpa using Array.mem_of_getElem? ht
  have hall : ([38, 39, 4, 4].all fun u => !Tryz.prog.wantsStandIn u) = true := by kernel_rfl
  exact (show Tryz.prog.wantsStandIn t = false by simpa using List.all_eq_true.1 hall t hm)

/-- ████ THE CARD ████ -/
theorem card : Rows.FnWriteCardSaid :=
  Claim7.holds_tied_plain_at .later [] _ _ _ _ said (fun _ h => by cases h) (by kernel_rfl) (fun _ h => by cases h) fnWrite_row_tie rfl ⟨rfl, rfl⟩ (by kernel_rfl) rfl plain (by kernel_rfl)
#print axioms card
end Go.Proofs.YtlphcidpaidclaaGreatDoor.fnWrite
