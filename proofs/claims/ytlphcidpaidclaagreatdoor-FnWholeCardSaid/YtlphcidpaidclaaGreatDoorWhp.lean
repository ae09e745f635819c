/-
  What is proved: the law FnWhole returns true at every number and every list of bytes, and what it was handed reads as it did. No condition.
-/
import Derived.Test.YtlphcidpaidclaaGreatDoorWho
import Derived.Test.YtlphcidpaidclaaGreatDoorCards
import Derived.Test.YtlphcidpaidclaaGreatDoorTie
import Derived.WalkKit
import Derived.ProofKit
import Derived.OpenShut
import Derived.ShutString
import Derived.ChangeOld
import Derived.Below
import Derived.OpenVars
import Derived.Deep.DeepHandedRow
import Derived.Lib.LaidTab
import Derived.LaidMore
import Derived.Lay
import Derived.SevenTiedAt
import Derived.Stop.Joined
namespace Go.Proofs.YtlphcidpaidclaaGreatDoor.fnWhole
open Go.ChangeShapes Go.WideShapes Go.ChangeAt Go.RowKit
set_option linter.unusedVariables false

theorem own : ownKnob Tryz.prog.godebug = none := by kernel_rfl
theorem laidOut : laidOutB Tryz.prog = true := by kernel_rfl

theorem laid_tail {W : World} {x : String × DataW Unit} {rest : List (String × DataW Unit)} (h : laidMet Tryz.prog (x :: rest) W) : laidMet Tryz.prog rest W := by
  obtain ⟨ps, ⟨g', t', cs, fuel, p, q, hg', ht', hvar, hd, hr, e⟩, h2⟩ := h
  subst e
  exact ⟨q, hr, (List.nodup_append.1 h2.1).2.1, fun b off hm => h2.2 b off (List.mem_append_right _ hm)⟩
theorem table {W : World} (h : laidMetH Tryz.prog Rows.fnWholeRow.laid W) : TabP W := by
  have h1 : laidMet Tryz.prog Rows.fnWholeRow.laid W := h
  exact Lib.tabIs_of_head gTabP (t := 145) (by kernel_rfl) Tryz.underlying145 Tryz.underlying25 (by kernel_rfl) (by kernel_rfl) (laid_tail (laid_tail (laid_tail h1)))

/-- WHAT THE WALK IS TOLD OF A SLICE OF INTEGERS THAT CAME IN -/
def IsRow (k : IntKind) (w : World) (a : Option Addr) (len cap : Nat) (zs : List Int) : Prop :=
  (a = none ∧ len = 0 ∧ cap = 0 ∧ zs = []) ∨
  ∃ x, a = some x ∧ len ≤ cap ∧ cap ≤ maxLen ∧ zs.length = cap ∧ (∀ i, i < zs.length → w.cell? (x.add i) = some (.int k (zs.getD i 0))) ∧ ∀ n ∈ zs, (Lit.int k n).wf = true

theorem walk (n0 : Int) (hn0 : 0 ≤ n0) (hn1 : n0 ≤ 65535) (a0 : Option Addr) (len0 cap0 : Nat) (z0 : List Int) (w : World) (w0 : IsRow .u8 w a0 len0 cap0 z0) (htab : TabP w) (hgt : 3 < w.heap.size) :
    Calls Tryz.prog 3 #[.int .u16 n0, .slice a0 len0 cap0] w fun e w' => e = .returned (.bool true) ∧ Below w.heap.size w w' := by
  by_cases hbig : 2147483647 < len0
  · have hb1 : decide ((2147483647 : Int) < (len0 : Int)) = true := by rw [decide_eq_true_eq]; omega
    go_enter Tryz.func3, Tryz.ntmps3
    go_wp2
    all_goals (go_ret; exact ⟨rfl, Below.refl _ _⟩)
  by_cases hmid : 20 < len0
  · have hb1 : decide ((2147483647 : Int) < (len0 : Int)) = false := by rw [decide_eq_false_iff_not]; omega
    have hb2 : decide ((20 : Int) < (len0 : Int)) = true := by rw [decide_eq_true_eq]; omega
    go_enter Tryz.func3, Tryz.ntmps3
    go_wp2
    all_goals (go_ret; exact ⟨rfl, Below.refl _ _⟩)
  obtain ⟨m, hm⟩ : ∃ m : Nat, (m : Int) = n0 % 4000 := ⟨(n0 % 4000).toNat, by omega⟩
  rcases w0 with ⟨rfl, rfl, rfl, rfl⟩ | ⟨x, rfl, hl, hmx, hz, hc, hwf⟩
  · exact who_walk n0 m none 0 0 0 0 [] w hn0 hn1 hm (by omega) (by omega) (by omega) (by omega) (by simp) htab hgt
  · by_cases h0 : 0 < len0
    · obtain ⟨b, off, rfl, hc'⟩ := ints_at hc (by omega)
      have hb : b < w.heap.size := World.block_lt_of_cell? w ⟨b, off + 0, none⟩ (hc' 0 (by omega))
      exact who_walk n0 m _ b off len0 cap0 z0 w hn0 hn1 hm (fun _ => ⟨rfl, hb⟩) (by omega) hl (fun j hj => hc' j (by omega)) (fun j => by
        have := range_u8 hwf j
        rwa [← List.getD_eq_getElem?_getD] at this) htab hgt
    · obtain rfl : len0 = 0 := by omega
      exact who_walk n0 m _ 0 0 0 cap0 [] w hn0 hn1 hm (by omega) (by omega) (by omega) (by omega) (by simp) htab hgt

set_option maxRecDepth 100000 in
theorem lifted (os : Os) (started : os.Started) (H : Type) (enc : TypeId × Value → H) :
    ReturnsInHanded {} Tryz.checked os 3 .any (fun w args => (Rows.fnWholeSpec.pre enc Tryz.prog Tryz.f3 Rows.fnWholeRow.domain false w args ∧ laidMetH Tryz.prog Rows.fnWholeRow.laid w) ∧ sizedMet enc Tryz.prog Tryz.f3 (OpenSpec.ofChange Rows.fnWholeSpec) false w args)
      (Rows.fnWholeSpec.post enc Tryz.prog Tryz.f3 false true false false) := by
  refine returnsInHanded_of_change_and (C := Tryz.checked) (X := fun w _ => laidMetH Tryz.prog Rows.fnWholeRow.laid w) (fun _ _ _ hh h => h.of_heap hh) own started (by kernel_rfl) Tryz.func3
    (ChangeSpec.witness_shaped (enc := enc) (C := Tryz.checked) (os := os) (X := fun w _ => laidMetH Tryz.prog Rows.fnWholeRow.laid w) false (World.laidAll Tryz.prog os Rows.fnWholeRow.laid) #[.int .u16 0, .slice none 0 0] 8 (World.laidAll_os _ _ _)
      (World.shaped_of_ZipB (by kernel_rfl) (by kernel_rfl)) (by kernel_rfl) (by kernel_rfl) (by kernel_rfl)
      (by rw [MakeChecks.laidMetH_plain _ _ _ (by kernel_rfl)]; exact laidMet_laidAll _ (by kernel_rfl) (by kernel_rfl))) ?_
  intro W base args ds gs before hval0 hW hcnd _ hL _
  have hval : ∀ (j : Nat) t v, Tryz.f3.params[j]? = some t → args[j]? = some v → Value.okWide Tryz.prog W .any base t v := hval0
  have hW' := hW
  obtain ⟨p, q, hA0, hV, rfl, hfz, hnd⟩ := hW
  have hA : DataW.TrodAll enc Tryz.prog W 0 (fun _ => true) true Tryz.f3.params.toList args.toList ds p := hA0
  rw [Tryz.params3] at hA hval
  obtain ⟨v0, vs0, d0, ds0, p0, q0, hargs, rfl, rfl, h0, r0⟩ := trodAll_cons hA
  obtain ⟨v1, vs1, d1, ds1, p1, q1, hargs1, rfl, rfl, h1, r1⟩ := trodAll_cons r0
  obtain ⟨rfl, rfl, rfl⟩ := trodAll_nil r1
  subst hargs1
  obtain rfl : args = #[v0, v1] := by cases args; simp_all
  obtain ⟨n0, rfl, rfl, rfl, wn0⟩ := open_int Tryz.underlying22 (hval 0 22 v0 rfl rfl) h0
  obtain ⟨a0, len0, cap0, rfl⟩ := okWide_slice Tryz.underlying23 (hval 1 23 v1 rfl rfl)
  have k1 := h1
  have lt1 : ∀ x ∈ p1, x.block < W.heap.size := by obtain ⟨m, hm⟩ := k1; exact DataW.trod_lt m _ _ _ hm
  obtain ⟨z0, w0⟩ : ∃ zs, IsRow .u8 W a0 len0 cap0 zs := by
    obtain ⟨fuel, hf⟩ := h1
    rcases open_ints Tryz.underlying23 Tryz.underlying5 (by kernel_rfl) hf with ⟨hcs, _⟩ | ⟨x, l, c, zs, hcs, _, hl, hm, hz, _, hcell, hwz⟩
    · simp [Value.cells] at hcs
      obtain ⟨rfl, rfl, rfl⟩ := hcs
      exact ⟨[], .inl ⟨rfl, rfl, rfl, rfl⟩⟩
    · simp [Value.cells] at hcs
      obtain ⟨rfl, rfl, rfl⟩ := hcs
      exact ⟨zs, .inr ⟨_, rfl, hl, hm, by simpa using hz, hcell, hwz⟩⟩
  have htab := table hL
  have hgt : 3 < W.heap.size := World.block_lt_of_cell? W ⟨_, 0, none⟩ (htab.cell gTabP 0 (by decide))
  have hb0 : 0 ≤ n0 ∧ n0 ≤ 65535 := ⟨(by have h := wn0; simp [Lit.wf] at h; exact h.1), (by have h := wn0; simp [Lit.wf] at h; exact h.2)⟩
  obtain ⟨g, hgs⟩ : ∃ g, gs = [g] := by
    cases gs with
    | nil => exact hV.elim
    | cons g rest =>
      obtain ⟨_, _, _, _, _, _, _, _, _, _, hr, _⟩ := hV
      cases rest with
      | nil => exact ⟨g, rfl⟩
      | cons _ _ => exact hr.elim
  subst hgs
  clear hA0 hval0
  refine (walk n0 hb0.1 hb0.2 a0 len0 cap0 z0 W w0 htab hgt).mono fun e W' ⟨he, bel⟩ => ?_
  subst he
  exact ⟨_, rfl, _, _, _, [], _, _, hW', trodAll_mk1 (shut_bool Tryz.underlying4 _), (trodAll_cons_mk (shut_int Tryz.underlying22 wn0) (trodAll_cons_mk (Below.trod laidOut (by kernel_rfl) (of_decide_eq_true (by kernel_rfl)) k1 bel lt1) trodAll_mk0)), Below.trodVars laidOut bel (by kernel_rfl) hV, bel.frame _, fun h => by cases h⟩

theorem said : Rows.FnWholeSaid :=
  OpenClaim.holds_of_wide 3 Tryz.f3 rfl rfl rfl rfl rfl rfl rfl ⟨rfl, rfl, rfl, rfl, rfl⟩ rfl rfl rfl rfl rfl (by kernel_rfl) Tryz.func3 (by kernel_rfl)
    (of_decide_eq_true (by kernel_rfl)) (by unfold Func.isWrapper; first | (rw [if_pos (by decide +kernel)]; kernel_rfl) | (rw [if_neg (by decide +kernel)]; exact ⟨rfl, rfl⟩))
    (fun os started H enc _ => lifted os started H enc)
theorem plain (f : FuncId) (fn : Func) (hf : Tryz.pinned.checked.prog.funcNamed "loop.example/pub-g03454/laws.FnWhole" = some f) (hfn : Tryz.pinned.checked.prog.funcs[f]? = some fn) :
    false = Tryz.pinned.checked.prog.looks [] ∧ ∀ (j : Nat) t, fn.params[j]? = some t → Tryz.pinned.checked.prog.wantsStandIn t = false := by
  obtain rfl : f = 3 := Option.some.inj ((show Tryz.prog.funcNamed "loop.example/pub-g03454/laws.FnWhole" = some 3 by kernel_rfl).symm.trans hf) |>.symm
  obtain rfl : fn = Tryz.f3 := (Option.some.inj (Tryz.func3.symm.trans hfn)).symm
  refine ⟨by kernel_rfl, fun j t ht => ?_⟩
  rw [Tryz.params3] at ht
  have hm : t ∈ [22, 23] := by simpa using Array.mem_of_getElem? ht
  have hall : ([22, 23].all fun u => !Tryz.prog.wantsStandIn u) = true := by kernel_rfl
  exact (show Tryz.prog.wantsStandIn t = false by simpa using List.all_eq_true.1 hall t hm)

/-- ████ THE CARD ████ -/
theorem card : Rows.FnWholeCardSaid :=
  Claim7.holds_tied_plain_at .later [] _ _ _ _ said (fun _ h => by cases h) (by kernel_rfl) (fun _ h => by cases h) fnWhole_row_tie rfl ⟨rfl, rfl⟩ (by kernel_rfl) rfl plain (by kernel_rfl)
#print axioms card
end Go.Proofs.YtlphcidpaidclaaGreatDoor.fnWhole
