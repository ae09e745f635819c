/-
 What is proved: the law FnSteps returns true at every argument, and what it was handed reads as it did. No condition.
-/
import Derived.Test.YtdpebhlkgmopkaaDoorJd
import Derived.Test.YtdpebhlkgmopkaaDoorTie
import Derived.SevenTiedAt
import Derived.Stop.Joined
namespace Go.Proofs.YtdpebhlkgmopkaaDoor.fnSteps
open Go.ChangeShapes Go.WideShapes Go.ChangeAt Go.RowKit Jn
set_option linter.unusedVariables false
set_option maxRecDepth 100000 in
theorem walk (x1 x2 : Int) (hx1 : 0 ≤ x1 ∧ x1 ≤ 255) (hx2 : 0 ≤ x2 ∧ x2 ≤ 255) (a0 : Option Addr) (len0 cap0 : Nat) (z0 : List Int) (w : World) (w0 : IsRow w a0 len0 cap0 z0) (hev : EV w) (hlo : 0 < w.heap.size) :
   Calls Tryd.prog 3 #[.slice a0 len0 cap0, .int .u8 x1, .int .u8 x2] w fun e w' => e = .returned (.bool true) ∧ Below w.heap.size w w' := by
 by_cases hbig : 2147483647 < len0
 · have hb1 : decide ((2147483647 : Int) < (len0 : Int)) = true := by rw [decide_eq_true_eq]; omega
   go_enter Tryd.func3, Tryd.ntmps3
   go_wp2
   all_goals (go_ret; exact ⟨rfl, Below.refl _ _⟩)
 have hb1 : decide ((2147483647 : Int) < (len0 : Int)) = false := by rw [decide_eq_false_iff_not]; omega
 by_cases hmid : 60 < len0
 · have hb2 : decide ((60 : Int) < (len0 : Int)) = true := by rw [decide_eq_true_eq]; omega
   go_enter Tryd.func3, Tryd.ntmps3
   go_wp2
   all_goals (go_ret; exact ⟨rfl, Below.refl _ _⟩)
 obtain ⟨b, off, hu⟩ := w0.u32s (by omega)
 obtain ⟨m, rfl⟩ : ∃ m : Nat, x1 = (m : Int) := ⟨x1.toNat, by omega⟩
 obtain ⟨k, rfl⟩ : ∃ k : Nat, x2 = (k : Int) := ⟨x2.toNat, by omega⟩
 exact fnsteps_walk (by omega) hu (by omega) (by omega) hev hlo
set_option maxRecDepth 100000 in
theorem lifted (os : Os) (started : os.Started) (H : Type) (enc : TypeId × Value → H) :
   ReturnsInHanded {} Tryd.checked os 3 .any (fun w args => (Rows.fnStepsSpec.pre enc Tryd.prog Tryd.f3 Rows.fnStepsRow.domain false w args ∧ laidMetH Tryd.prog Rows.fnStepsRow.laid w) ∧ sizedMet enc Tryd.prog Tryd.f3 (OpenSpec.ofChange Rows.fnStepsSpec) false w args)
     (Rows.fnStepsSpec.post enc Tryd.prog Tryd.f3 false true false false) := by
 refine returnsInHanded_of_change_and (C := Tryd.checked) (X := fun w _ => laidMetH Tryd.prog Rows.fnStepsRow.laid w) (fun _ _ _ hh h => h.of_heap hh) own started (by kernel_rfl) Tryd.func3
   (ChangeSpec.witness_shaped (enc := enc) (C := Tryd.checked) (os := os) (X := fun w _ => laidMetH Tryd.prog Rows.fnStepsRow.laid w) false (World.laidAll Tryd.prog os Rows.fnStepsRow.laid) #[.slice none 0 0, .int .u8 0, .int .u8 0] 8 (World.laidAll_os _ _ _)
     (World.shaped_of_ZipB (by kernel_rfl) (by kernel_rfl)) (by kernel_rfl) (by kernel_rfl) (by kernel_rfl)
     (by rw [MakeChecks.laidMetH_plain _ _ _ (by kernel_rfl)]; exact laidMet_laidAll _ (by kernel_rfl) (by kernel_rfl))) ?_
 intro W base args ds gs before hval0 hW hcnd _ hL _
 have hval : ∀ (j : Nat) t v, Tryd.f3.params[j]? = some t → args[j]? = some v → Value.okWide Tryd.prog W .any base t v := hval0
 have hW' := hW
 obtain ⟨p, q, hA0, hV, rfl, hfz, hnd⟩ := hW
 have hA : DataW.TrodAll enc Tryd.prog W 0 (fun _ => true) true Tryd.f3.params.toList args.toList ds p := hA0
 rw [Tryd.params3] at hA hval
 obtain ⟨v0, vs0, d0, ds0, p0, q0, hargs0, rfl, rfl, h0, r0⟩ := trodAll_cons hA
 obtain ⟨v1, vs1, d1, ds1, p1, q1, hargs1, rfl, rfl, h1, r1⟩ := trodAll_cons r0
 obtain ⟨v2, vs2, d2, ds2, p2, q2, hargs2, rfl, rfl, h2, r2⟩ := trodAll_cons r1
 obtain ⟨rfl, rfl, rfl⟩ := trodAll_nil r2
 subst hargs2
 subst hargs1
 obtain rfl : args = #[v0, v1, v2] := by cases args; simp_all
 obtain ⟨a0, len0, cap0, rfl⟩ := okWide_slice Tryd.underlying22 (hval 0 22 v0 rfl rfl)
 obtain ⟨n0, rfl, rfl, rfl, wn0⟩ := open_int Tryd.underlying5 (hval 1 5 v1 rfl rfl) h1
 obtain ⟨x0, rfl, rfl, rfl, wx0⟩ := open_int Tryd.underlying5 (hval 2 5 v2 rfl rfl) h2
 have k1 := h0
 have lt1 : ∀ x ∈ p0, x.block < W.heap.size := by obtain ⟨m, hm⟩ := k1; exact DataW.trod_lt m _ _ _ hm
 obtain ⟨z0, w0⟩ := isRow_of k1
 obtain ⟨hev, hlo⟩ := table hL
 have hb0 : 0 ≤ n0 ∧ n0 ≤ 255 := ⟨(by have h := wn0; simp [Lit.wf] at h; exact h.1), (by have h := wn0; simp [Lit.wf] at h; exact h.2)⟩
 have hx0 : 0 ≤ x0 ∧ x0 ≤ 255 := ⟨(by have h := wx0; simp [Lit.wf] at h; exact h.1), (by have h := wx0; simp [Lit.wf] at h; exact h.2)⟩
 obtain ⟨g, hgs⟩ : ∃ g, gs = [g] := by
   cases gs with
   | nil => exact hV.elim
   | cons g rest =>
     obtain ⟨_, _, _, _, _, _, _, _, _, _, hr, _⟩ := hV
     cases rest with
     | nil => exact ⟨g, rfl⟩
     | cons _ _ => exact hr.elim
 subst hgs
 clear hA0 hval0
 refine (walk n0 x0 hb0 hx0 a0 len0 cap0 z0 W w0 hev hlo).mono fun e W' ⟨he, bel⟩ => ?_
 subst he
 exact ⟨_, rfl, _, _, _, [], _, _, hW', trodAll_mk1 (shut_bool Tryd.underlying4 _), (trodAll_cons_mk (Below.trod laidOut (by kernel_rfl) (of_decide_eq_true (by kernel_rfl)) k1 bel lt1) (trodAll_cons_mk (shut_int Tryd.underlying5 wn0) (trodAll_cons_mk (shut_int Tryd.underlying5 wx0) trodAll_mk0))), Below.trodVars laidOut bel (by kernel_rfl) hV, bel.frame _, fun h => by cases h⟩
theorem said : Rows.FnStepsSaid :=
 OpenClaim.holds_of_wide 3 Tryd.f3 rfl rfl rfl rfl rfl rfl rfl ⟨rfl, rfl, rfl, rfl, rfl⟩ rfl rfl rfl rfl rfl (by kernel_rfl) Tryd.func3 (by kernel_rfl)
   (of_decide_eq_true (by kernel_rfl)) (by unfold Func.isWrapper; first | (rw [if_pos (by decide +kernel)]; kernel_rfl) | (rw [if_neg (by decide +kernel)]; exact ⟨rfl, rfl⟩))
   (fun os started H enc _ => lifted os started H enc)
theorem plain (f : FuncId) (fn : Func) (hf : Tryd.pinned.checked.prog.funcNamed "loop.example/pub-g03454/laws.FnSteps" = some f) (hfn : Tryd.pinned.checked.prog.funcs[f]? = some fn) :
   false = Tryd.pinned.checked.prog.looks [] ∧ ∀ (j : Nat) t, fn.params[j]? = some t → Tryd.pinned.checked.prog.wantsStandIn t = false := by
 obtain rfl : f = 3 := Option.some.inj ((show Tryd.prog.funcNamed "loop.example/pub-g03454/laws.FnSteps" = some 3 by kernel_rfl).symm.trans hf) |>.symm
 obtain rfl : fn = Tryd.f3 := (Option.some.inj (Tryd.func3.symm.trans hfn)).symm
 refine ⟨by kernel_rfl, fun j t ht => ?_⟩
 rw [Tryd.params3] at ht
 have hm : t ∈ [22, 5] := by simpa using Array.mem_of_getElem? ht
 have hall : ([22, 5].all fun u => !Tryd.prog.wantsStandIn u) = true := by kernel_rfl
 exact (show Tryd.prog.wantsStandIn t = false by simpa using List.all_eq_true.1 hall t hm)
/-- ████ THE CARD ████ -/
theorem card : Rows.FnStepsCardSaid :=
 Claim7.holds_tied_plain_at .later [] _ _ _ _ said (fun _ h => by cases h) (by kernel_rfl) (fun _ h => by cases h) fnSteps_row_tie rfl ⟨rfl, rfl⟩ (by kernel_rfl) rfl plain (by kernel_rfl)
#print axioms card
end Go.Proofs.YtdpebhlkgmopkaaDoor.fnSteps
