/-
  Makers and setters of a playlist.
-/
import Derived.Test.YtlphcidpaidclaaGreatDoorOps
import Derived.Test.YtlphcidpaidclaaGreatDoorEnl
import Derived.Laws.MakeOwn
namespace Go.Proofs.YtlphcidpaidclaaGreatDoor
open Go.RowKit
set_option maxRecDepth 100000

theorem setwin {b win cap : Nat} {c0 c1 c2 c3 c4 c5 c6 c7 c8 c9 c10 c11 c12 c14 c15 c16 c17 c18 c19 c20 c21 c22 : Value} {w0 : World} (hb : Blk w0 b 70 #[c0, c1, c2, c3, c4, c5, c6, c7, c8, c9, c10, c11, c12, (.int .u64 cap), c14, c15, c16, c17, c18, c19, c20, c21, c22]) (hw : win ≤ cap) :
    Calls Tryz.prog 30 #[pt b, .int .u64 win] w0 fun e w' => e = .returned .nilIface ∧ Blk w' b 70 #[c0, c1, c2, c3, c4, c5, c6, c7, c8, c9, c10, c11, .int .u64 win, (.int .u64 cap), c14, c15, c16, c17, c18, c19, c20, c21, c22] ∧ w0.grownBy w' (some b) := by
  refine calls_of_wp Tryz.func30 rfl ?_
  generalize hA : Act.mk _ _ = a0
  have F0 : Fz 16 a0 := by subst hA; exact ⟨by simp [Tryz.ntmps30], rfl⟩
  have h0_0 : a0.tmps.getD 0 undef = (.pointer (some ⟨b, 0, none⟩)) := by subst hA; exact fr_arg rfl
  have h1_0 : a0.tmps.getD 1 undef = (.int .u64 win) := by subst hA; exact fr_arg rfl
  clear hA
  refine wp_seq ?_
  refine rg_list ?_
  refine wl_p (ex_as (v := .nilIface) rfl) (by rw [F0.size]; decide) fun a1 u1 (h4_1 : a1.tmps.getD 4 undef = .nilIface) => ?_
  have F1 := F0.pt u1
  have h0_1 := u1.v 0 h0_0 (by decide)
  have h1_1 := u1.v 1 h1_0 (by decide)
  clear h0_0 h1_0 u1 F0
  change Code.wp _ _ _ _ _
  refine wp_seq ?_
  refine wp_seq ?_
  refine rg_list ?_
  refine wl_p (ex_mv (v := (.int .u64 win)) h1_1) (by rw [F1.size]; decide) fun a2 u2 (h5_2 : a2.tmps.getD 5 undef = (.int .u64 win)) => ?_
  have F2 := F1.pt u2
  have h0_2 := u2.v 0 h0_1 (by decide)
  have h1_2 := u2.v 1 h1_1 (by decide)
  have h4_2 := u2.v 4 h4_1 (by decide)
  clear h0_1 h1_1 h4_1 u2 F1
  refine wl_p (ex_mv (v := (.pointer (some ⟨b, 0, none⟩))) h0_2) (by rw [F2.size]; decide) fun a3 u3 (h6_3 : a3.tmps.getD 6 undef = (.pointer (some ⟨b, 0, none⟩))) => ?_
  have F3 := F2.pt u3
  have h0_3 := u3.v 0 h0_2 (by decide)
  have h1_3 := u3.v 1 h1_2 (by decide)
  have h4_3 := u3.v 4 h4_2 (by decide)
  have h5_3 := u3.v 5 h5_2 (by decide)
  clear h0_2 h1_2 h4_2 h5_2 u3 F2
  refine wl_p (ex_nil (ad := ⟨b, 0, none⟩) h6_3) (by rw [F3.size]; decide) fun a4 u4 (h7_4 : a4.tmps.getD 7 undef = (.pointer (some ⟨b, 0, none⟩))) => ?_
  have F4 := F3.pt u4
  have h0_4 := u4.v 0 h0_3 (by decide)
  have h1_4 := u4.v 1 h1_3 (by decide)
  have h4_4 := u4.v 4 h4_3 (by decide)
  have h5_4 := u4.v 5 h5_3 (by decide)
  clear h0_3 h1_3 h4_3 h5_3 h6_3 u4 F3
  refine wl_p (ex_fa (T := 70) (f := 13) (k := 13) (b := b) (fun _ _ => by kernel_rfl) h7_4) (by rw [F4.size]; decide) fun a5 u5 (h8_5 : a5.tmps.getD 8 undef = (.pointer (some ⟨b, 13, none⟩))) => ?_
  have F5 := F4.pt u5
  have h0_5 := u5.v 0 h0_4 (by decide)
  have h1_5 := u5.v 1 h1_4 (by decide)
  have h4_5 := u5.v 4 h4_4 (by decide)
  have h5_5 := u5.v 5 h5_4 (by decide)
  clear h0_4 h1_4 h4_4 h5_4 h7_4 u5 F4
  refine wl_p (ex_ld (v := (.int .u64 cap)) (ad := ⟨b, 13, none⟩) (fun _ => by kernel_rfl) h8_5 (hb.cell 13)) (by rw [F5.size]; decide) fun a6 u6 (h9_6 : a6.tmps.getD 9 undef = (.int .u64 cap)) => ?_
  have F6 := F5.pt u6
  have h0_6 := u6.v 0 h0_5 (by decide)
  have h1_6 := u6.v 1 h1_5 (by decide)
  have h4_6 := u6.v 4 h4_5 (by decide)
  have h5_6 := u6.v 5 h5_5 (by decide)
  clear h0_5 h1_5 h4_5 h5_5 h8_5 u6 F5
  refine wl_p (ex_bin (vx := (.int .u64 win)) (vy := (.int .u64 cap)) (v := (.bool false)) h5_6 h9_6 ((bo_gtru _ _ _).trans (by rw [decide_eq_false (by omega)]))) (by rw [F6.size]; decide) fun a7 u7 (h10_7 : a7.tmps.getD 10 undef = (.bool false)) => ?_
  have F7 := F6.pt u7
  have h0_7 := u7.v 0 h0_6 (by decide)
  have h1_7 := u7.v 1 h1_6 (by decide)
  have h4_7 := u7.v 4 h4_6 (by decide)
  clear h0_6 h1_6 h4_6 h5_6 h9_6 u7 F6
  change Code.wp _ _ _ _ _
  refine wp_cond_false h10_7 ?_
  refine wp_skip ?_
  change Code.wp _ _ _ _ _
  refine wp_seq ?_
  refine rg_list ?_
  refine wl_p (ex_mv (v := (.pointer (some ⟨b, 0, none⟩))) h0_7) (by rw [F7.size]; decide) fun a8 u8 (h12_8 : a8.tmps.getD 12 undef = (.pointer (some ⟨b, 0, none⟩))) => ?_
  have F8 := F7.pt u8
  have h1_8 := u8.v 1 h1_7 (by decide)
  have h4_8 := u8.v 4 h4_7 (by decide)
  clear h0_7 h1_7 h4_7 h10_7 u8 F7
  refine wl_p (ex_mv (v := (.int .u64 win)) h1_8) (by rw [F8.size]; decide) fun a9 u9 (h13_9 : a9.tmps.getD 13 undef = (.int .u64 win)) => ?_
  have F9 := F8.pt u9
  have h4_9 := u9.v 4 h4_8 (by decide)
  have h12_9 := u9.v 12 h12_8 (by decide)
  clear h1_8 h4_8 h12_8 u9 F8
  refine wl_p (ex_nil (ad := ⟨b, 0, none⟩) h12_9) (by rw [F9.size]; decide) fun a10 u10 (h14_10 : a10.tmps.getD 14 undef = (.pointer (some ⟨b, 0, none⟩))) => ?_
  have F10 := F9.pt u10
  have h4_10 := u10.v 4 h4_9 (by decide)
  have h13_10 := u10.v 13 h13_9 (by decide)
  clear h4_9 h12_9 h13_9 u10 F9
  refine wl_p (ex_fa (T := 70) (f := 12) (k := 12) (b := b) (fun _ _ => by kernel_rfl) h14_10) (by rw [F10.size]; decide) fun a11 u11 (h15_11 : a11.tmps.getD 15 undef = (.pointer (some ⟨b, 12, none⟩))) => ?_
  have F11 := F10.pt u11
  have h4_11 := u11.v 4 h4_10 (by decide)
  have h13_11 := u11.v 13 h13_10 (by decide)
  clear h4_10 h13_10 h14_10 u11 F10
  obtain ⟨w1, hr1, Bb_1, G1⟩ := st_run (T := 50) (o := 12) (v := (.int .u64 win)) (cs' := #[c0, c1, c2, c3, c4, c5, c6, c7, c8, c9, c10, c11, (.int .u64 win), (.int .u64 cap), c14, c15, c16, c17, c18, c19, c20, c21, c22]) (fun _ => by kernel_rfl) hb rfl (by simp) rfl
  have Gf := G1
  refine wl_n (ex_st h15_11 h13_11 hr1) ?_
  clear hb hr1 G1
  change Code.wp _ _ _ _ _
  refine wp_seq ?_
  refine rg_list ?_
  refine wl_p (ex_as (v := .nilIface) rfl) (by rw [F11.size]; decide) fun a12 u12 (h4_12 : a12.tmps.getD 4 undef = .nilIface) => ?_
  have F12 := F11.pt u12
  clear h4_11 h13_11 h15_11 u12 F11
  change Code.wp _ _ _ _ _
  refine wp_ret ?_
  try simp only [Exit.then, Exit.inBlock]
  exact bodyPost_ret (v := .nilIface) ((results_tmp rfl _ _ _).trans (by rw [h4_12])) F12.defers ⟨rfl, Bb_1, Gf⟩

/-- make([]*MediaSegment, n, n) -/
theorem mkptr_run {w : World} {g : Nat} (hg : w.heap.size = g) (cap : Nat) (hc : cap ≤ 1024) :
    ∃ w', (Instr.makeSlice 61 (.int .u64 cap) (.int .u64 cap)).run Tryz.prog w = .ok (.slice (some ⟨g, 0, none⟩) cap cap) w' ∧ Blk w' g 74 (Array.replicate cap (.pointer none)) ∧ w.grownBy w' none ∧ w'.heap.size = g + 1 := by
  subst hg
  obtain ⟨i, hi, hz, hs, hb⟩ : ∃ i, Tryz.prog.info? 74 = some i ∧ i.zero = some (.pointer none) ∧ i.size = 1 ∧ i.bytes = 8 := by
    have h : (Tryz.prog.info? 74).map (fun i => (i.zero, i.size, i.bytes)) = some (some (.pointer none), 1, 8) := by kernel_rfl
    obtain ⟨i, hi, he⟩ := Option.map_eq_some_iff.1 h
    simp only [Prod.mk.injEq] at he
    exact ⟨i, hi, he.1, he.2.1, he.2.2⟩
  have hr := run_make (P := Tryz.prog) w 61 74 i (.pointer none) Tryz.underlying61 hi hz .u64 .u64 cap cap (by omega) (Int.le_refl _) (by rw [hb]; omega) (by omega)
  have hm : madeCells (Value.pointer none).cells (((cap : Int).toNat) * i.size) = Array.replicate cap (.pointer none) := by
    rw [hs, Nat.mul_one, Int.toNat_natCast]
    unfold madeCells
    apply Array.ext
    · simp
    · intro j h1 h2
      have : (Value.pointer none).cells = #[.pointer none] := rfl
      simp [this, Nat.mod_one j]
  rw [hm, Int.toNat_natCast] at hr
  exact ⟨_, hr, Blk.new rfl, grown_alloc _ _, by simp⟩

theorem newpl {win cap : Nat} {w0 : World} (hw : win ≤ cap) (hcap : cap ≤ 1024) :
    Calls Tryz.prog 14 #[.int .u64 win, .int .u64 cap] w0 fun e w' => ∃ b g, e = .returned (.tuple #[pt b, .nilIface]) ∧ Blk w' b 70 #[(.float .f64 0), (.int .u64 0), (.slice (some ⟨g, 0, none⟩) cap cap), (.string { data := #[] }), (.bool false), (.bool false), (.int .u64 0), (.int .u64 0), (.float .f64 0), (.bool false), (.bool false), (.int .i64 0), (.int .u64 win), (.int .u64 cap), (.int .u64 0), (.int .u64 0), (.int .u64 0), (.slice none 0 0), (.int .i64 0), (.int .i8 0), (.int .u8 3), (.pointer none), (.pointer none)] ∧ Blk w' g 74 (Array.replicate cap (.pointer none)) ∧ g ≠ b ∧ w0.grownBy w' none ∧ w0.heap.size ≤ b ∧ w0.heap.size ≤ g := by
  refine calls_of_wp Tryz.func14 rfl ?_
  generalize hA : Act.mk _ _ = a0
  have F0 : Fz 28 a0 := by subst hA; exact ⟨by simp [Tryz.ntmps14], rfl⟩
  have h0_0 : a0.tmps.getD 0 undef = (.int .u64 win) := by subst hA; exact fr_arg rfl
  have h1_0 : a0.tmps.getD 1 undef = (.int .u64 cap) := by subst hA; exact fr_arg rfl
  clear hA
  have Kp0 := Kp.refl [] w0
  refine wp_seq ?_
  refine rg_list ?_
  refine wl_p (ex_as (v := (.pointer none)) rfl) (by rw [F0.size]; decide) fun a1 u1 (h4_1 : a1.tmps.getD 4 undef = (.pointer none)) => ?_
  have F1 := F0.pt u1
  have h0_1 := u1.v 0 h0_0 (by decide)
  have h1_1 := u1.v 1 h1_0 (by decide)
  clear h0_0 h1_0 u1 F0
  refine wl_p (ex_as (v := .nilIface) rfl) (by rw [F1.size]; decide) fun a2 u2 (h5_2 : a2.tmps.getD 5 undef = .nilIface) => ?_
  have F2 := F1.pt u2
  have h0_2 := u2.v 0 h0_1 (by decide)
  have h1_2 := u2.v 1 h1_1 (by decide)
  have h4_2 := u2.v 4 h4_1 (by decide)
  clear h0_1 h1_1 h4_1 u2 F1
  change Code.wp _ _ _ _ _
  refine wp_seq ?_
  refine rg_list ?_
  obtain ⟨gp, hgp⟩ : ∃ g, w0.heap.size = g := ⟨_, rfl⟩
  have ge_p : w0.heap.size ≤ gp := by have := Kp0.size; omega
  obtain ⟨w1, hr1, Bp_1, G1, hs1⟩ := al_run (op := Instr.alloc 70 true (.tuple #[])) (T := 70) (cs := #[(.float .f64 0), (.int .u64 0), (.slice none 0 0), (.string { data := #[] }), (.bool false), (.bool false), (.int .u64 0), (.int .u64 0), (.float .f64 0), (.bool false), (.bool false), (.int .i64 0), (.int .u64 0), (.int .u64 0), (.int .u64 0), (.int .u64 0), (.int .u64 0), (.slice none 0 0), (.int .i64 0), (.int .i8 0), (.int .u8 0), (.pointer none), (.pointer none)]) hgp (fun _ => by kernel_rfl)
  have Kp1 := Kp0.new G1
  refine wl_p (ex_al hr1) (by rw [F2.size]; decide) fun a3 u3 (h8_3 : a3.tmps.getD 8 undef = (.pointer (some ⟨gp, 0, none⟩))) => ?_
  have F3 := F2.pt u3
  have h0_3 := u3.v 0 h0_2 (by decide)
  have h1_3 := u3.v 1 h1_2 (by decide)
  have h4_3 := u3.v 4 h4_2 (by decide)
  have h5_3 := u3.v 5 h5_2 (by decide)
  clear h0_2 h1_2 h4_2 h5_2 u3 F2
  clear Kp0 hr1 G1 hs1 hgp
  refine wl_p (ex_as (v := (.pointer (some ⟨gp, 0, none⟩))) h8_3) (by rw [F3.size]; decide) fun a4 u4 (h6_4 : a4.tmps.getD 6 undef = (.pointer (some ⟨gp, 0, none⟩))) => ?_
  have F4 := F3.pt u4
  have h0_4 := u4.v 0 h0_3 (by decide)
  have h1_4 := u4.v 1 h1_3 (by decide)
  have h4_4 := u4.v 4 h4_3 (by decide)
  have h5_4 := u4.v 5 h5_3 (by decide)
  clear h0_3 h1_3 h4_3 h5_3 h8_3 u4 F3
  change Code.wp _ _ _ _ _
  refine wp_seq ?_
  refine rg_list ?_
  refine wl_p (ex_mv (v := (.pointer (some ⟨gp, 0, none⟩))) h6_4) (by rw [F4.size]; decide) fun a5 u5 (h9_5 : a5.tmps.getD 9 undef = (.pointer (some ⟨gp, 0, none⟩))) => ?_
  have F5 := F4.pt u5
  have h0_5 := u5.v 0 h0_4 (by decide)
  have h1_5 := u5.v 1 h1_4 (by decide)
  have h4_5 := u5.v 4 h4_4 (by decide)
  have h5_5 := u5.v 5 h5_4 (by decide)
  have h6_5 := u5.v 6 h6_4 (by decide)
  clear h0_4 h1_4 h4_4 h5_4 h6_4 u5 F4
  refine wl_p (ex_nil (ad := ⟨gp, 0, none⟩) h9_5) (by rw [F5.size]; decide) fun a6 u6 (h10_6 : a6.tmps.getD 10 undef = (.pointer (some ⟨gp, 0, none⟩))) => ?_
  have F6 := F5.pt u6
  have h0_6 := u6.v 0 h0_5 (by decide)
  have h1_6 := u6.v 1 h1_5 (by decide)
  have h4_6 := u6.v 4 h4_5 (by decide)
  have h5_6 := u6.v 5 h5_5 (by decide)
  have h6_6 := u6.v 6 h6_5 (by decide)
  clear h0_5 h1_5 h4_5 h5_5 h6_5 h9_5 u6 F5
  refine wl_p (ex_fa (T := 70) (f := 18) (k := 20) (b := gp) (fun _ _ => by kernel_rfl) h10_6) (by rw [F6.size]; decide) fun a7 u7 (h11_7 : a7.tmps.getD 11 undef = (.pointer (some ⟨gp, 20, none⟩))) => ?_
  have F7 := F6.pt u7
  have h0_7 := u7.v 0 h0_6 (by decide)
  have h1_7 := u7.v 1 h1_6 (by decide)
  have h4_7 := u7.v 4 h4_6 (by decide)
  have h5_7 := u7.v 5 h5_6 (by decide)
  have h6_7 := u7.v 6 h6_6 (by decide)
  clear h0_6 h1_6 h4_6 h5_6 h6_6 h10_6 u7 F6
  obtain ⟨w2, hr2, Bp_2, G2⟩ := st_run (T := 5) (o := 20) (v := (.int .u8 3)) (cs' := #[(.float .f64 0), (.int .u64 0), (.slice none 0 0), (.string { data := #[] }), (.bool false), (.bool false), (.int .u64 0), (.int .u64 0), (.float .f64 0), (.bool false), (.bool false), (.int .i64 0), (.int .u64 0), (.int .u64 0), (.int .u64 0), (.int .u64 0), (.int .u64 0), (.slice none 0 0), (.int .i64 0), (.int .i8 0), (.int .u8 3), (.pointer none), (.pointer none)]) (fun _ => by kernel_rfl) Bp_1 rfl (by simp) rfl
  have Kp2 := Kp1.set G2 (Or.inr ge_p)
  refine wl_n (ex_st h11_7 rfl hr2) ?_
  clear Kp1 Bp_1 hr2 G2
  change Code.wp _ _ _ _ _
  refine wp_seq ?_
  refine rg_list ?_
  refine wl_p (ex_mv (v := (.pointer (some ⟨gp, 0, none⟩))) h6_7) (by rw [F7.size]; decide) fun a8 u8 (h12_8 : a8.tmps.getD 12 undef = (.pointer (some ⟨gp, 0, none⟩))) => ?_
  have F8 := F7.pt u8
  have h0_8 := u8.v 0 h0_7 (by decide)
  have h1_8 := u8.v 1 h1_7 (by decide)
  have h4_8 := u8.v 4 h4_7 (by decide)
  have h5_8 := u8.v 5 h5_7 (by decide)
  have h6_8 := u8.v 6 h6_7 (by decide)
  clear h0_7 h1_7 h4_7 h5_7 h6_7 h11_7 u8 F7
  refine wl_p (ex_mv (v := (.int .u64 cap)) h1_8) (by rw [F8.size]; decide) fun a9 u9 (h13_9 : a9.tmps.getD 13 undef = (.int .u64 cap)) => ?_
  have F9 := F8.pt u9
  have h0_9 := u9.v 0 h0_8 (by decide)
  have h1_9 := u9.v 1 h1_8 (by decide)
  have h4_9 := u9.v 4 h4_8 (by decide)
  have h5_9 := u9.v 5 h5_8 (by decide)
  have h6_9 := u9.v 6 h6_8 (by decide)
  have h12_9 := u9.v 12 h12_8 (by decide)
  clear h0_8 h1_8 h4_8 h5_8 h6_8 h12_8 u9 F8
  refine wl_p (ex_nil (ad := ⟨gp, 0, none⟩) h12_9) (by rw [F9.size]; decide) fun a10 u10 (h14_10 : a10.tmps.getD 14 undef = (.pointer (some ⟨gp, 0, none⟩))) => ?_
  have F10 := F9.pt u10
  have h0_10 := u10.v 0 h0_9 (by decide)
  have h1_10 := u10.v 1 h1_9 (by decide)
  have h4_10 := u10.v 4 h4_9 (by decide)
  have h5_10 := u10.v 5 h5_9 (by decide)
  have h6_10 := u10.v 6 h6_9 (by decide)
  have h13_10 := u10.v 13 h13_9 (by decide)
  clear h0_9 h1_9 h4_9 h5_9 h6_9 h12_9 h13_9 u10 F9
  refine wl_p (ex_fa (T := 70) (f := 13) (k := 13) (b := gp) (fun _ _ => by kernel_rfl) h14_10) (by rw [F10.size]; decide) fun a11 u11 (h15_11 : a11.tmps.getD 15 undef = (.pointer (some ⟨gp, 13, none⟩))) => ?_
  have F11 := F10.pt u11
  have h0_11 := u11.v 0 h0_10 (by decide)
  have h1_11 := u11.v 1 h1_10 (by decide)
  have h4_11 := u11.v 4 h4_10 (by decide)
  have h5_11 := u11.v 5 h5_10 (by decide)
  have h6_11 := u11.v 6 h6_10 (by decide)
  have h13_11 := u11.v 13 h13_10 (by decide)
  clear h0_10 h1_10 h4_10 h5_10 h6_10 h13_10 h14_10 u11 F10
  obtain ⟨w3, hr3, Bp_3, G3⟩ := st_run (T := 50) (o := 13) (v := (.int .u64 cap)) (cs' := #[(.float .f64 0), (.int .u64 0), (.slice none 0 0), (.string { data := #[] }), (.bool false), (.bool false), (.int .u64 0), (.int .u64 0), (.float .f64 0), (.bool false), (.bool false), (.int .i64 0), (.int .u64 0), (.int .u64 cap), (.int .u64 0), (.int .u64 0), (.int .u64 0), (.slice none 0 0), (.int .i64 0), (.int .i8 0), (.int .u8 3), (.pointer none), (.pointer none)]) (fun _ => by kernel_rfl) Bp_2 rfl (by simp) rfl
  have Kp3 := Kp2.set G3 (Or.inr ge_p)
  refine wl_n (ex_st h15_11 h13_11 hr3) ?_
  clear Kp2 Bp_2 hr3 G3
  change Code.wp _ _ _ _ _
  refine wp_seq ?_
  refine wp_seq ?_
  refine rg_list ?_
  refine wl_p (ex_mv (v := (.pointer (some ⟨gp, 0, none⟩))) h6_11) (by rw [F11.size]; decide) fun a12 u12 (h16_12 : a12.tmps.getD 16 undef = (.pointer (some ⟨gp, 0, none⟩))) => ?_
  have F12 := F11.pt u12
  have h0_12 := u12.v 0 h0_11 (by decide)
  have h1_12 := u12.v 1 h1_11 (by decide)
  have h4_12 := u12.v 4 h4_11 (by decide)
  have h5_12 := u12.v 5 h5_11 (by decide)
  have h6_12 := u12.v 6 h6_11 (by decide)
  clear h0_11 h1_11 h4_11 h5_11 h6_11 h13_11 h15_11 u12 F11
  refine wl_p (ex_mv (v := (.int .u64 win)) h0_12) (by rw [F12.size]; decide) fun a13 u13 (h17_13 : a13.tmps.getD 17 undef = (.int .u64 win)) => ?_
  have F13 := F12.pt u13
  have h1_13 := u13.v 1 h1_12 (by decide)
  have h4_13 := u13.v 4 h4_12 (by decide)
  have h5_13 := u13.v 5 h5_12 (by decide)
  have h6_13 := u13.v 6 h6_12 (by decide)
  have h16_13 := u13.v 16 h16_12 (by decide)
  clear h0_12 h1_12 h4_12 h5_12 h6_12 h16_12 u13 F12
  refine wl_cl (args := #[(.pointer (some ⟨gp, 0, none⟩)), (.int .u64 win)]) (R := fun v w' => v = .nilIface ∧ (Blk w' gp 70 #[(.float .f64 0), (.int .u64 0), (.slice none 0 0), (.string { data := #[] }), (.bool false), (.bool false), (.int .u64 0), (.int .u64 0), (.float .f64 0), (.bool false), (.bool false), (.int .i64 0), (.int .u64 win), (.int .u64 cap), (.int .u64 0), (.int .u64 0), (.int .u64 0), (.slice none 0 0), (.int .i64 0), (.int .i8 0), (.int .u8 3), (.pointer none), (.pointer none)] ∧ w3.grownBy w' (some gp))) (ex_cl (fun _ _ => by kernel_rfl) (arg2 h16_13 h17_13)) ((setwin Bp_3 hw).mono fun _ _ h => ⟨_, h.1, rfl, h.2⟩) (by rw [F13.size]; decide) ?_
  rintro v w4 ⟨rfl, Bp_4, G4⟩
  have Kp4 := Kp3.set G4 (Or.inr ge_p)
  intro a14 u14 h18_14
  have F14 := F13.pt u14
  have h1_14 := u14.v 1 h1_13 (by decide)
  have h4_14 := u14.v 4 h4_13 (by decide)
  have h5_14 := u14.v 5 h5_13 (by decide)
  have h6_14 := u14.v 6 h6_13 (by decide)
  clear h1_13 h4_13 h5_13 h6_13 h16_13 h17_13 u14 F13
  clear Kp3 Bp_3
  refine wl_p (ex_as (v := .nilIface) h18_14) (by rw [F14.size]; decide) fun a15 u15 (h7_15 : a15.tmps.getD 7 undef = .nilIface) => ?_
  have F15 := F14.pt u15
  have h1_15 := u15.v 1 h1_14 (by decide)
  have h4_15 := u15.v 4 h4_14 (by decide)
  have h5_15 := u15.v 5 h5_14 (by decide)
  have h6_15 := u15.v 6 h6_14 (by decide)
  clear h1_14 h4_14 h5_14 h6_14 h18_14 u15 F14
  change Code.wp _ _ _ _ _
  refine wp_seq ?_
  refine rg_list ?_
  refine wl_p (ex_mv (v := .nilIface) h7_15) (by rw [F15.size]; decide) fun a16 u16 (h19_16 : a16.tmps.getD 19 undef = .nilIface) => ?_
  have F16 := F15.pt u16
  have h1_16 := u16.v 1 h1_15 (by decide)
  have h4_16 := u16.v 4 h4_15 (by decide)
  have h5_16 := u16.v 5 h5_15 (by decide)
  have h6_16 := u16.v 6 h6_15 (by decide)
  have h7_16 := u16.v 7 h7_15 (by decide)
  clear h1_15 h4_15 h5_15 h6_15 h7_15 u16 F15
  refine wl_p (ex_bin (vx := .nilIface) (vy := .nilIface) (v := (.bool false)) h19_16 rfl (by kernel_rfl)) (by rw [F16.size]; decide) fun a17 u17 (h20_17 : a17.tmps.getD 20 undef = (.bool false)) => ?_
  have F17 := F16.pt u17
  have h1_17 := u17.v 1 h1_16 (by decide)
  have h4_17 := u17.v 4 h4_16 (by decide)
  have h5_17 := u17.v 5 h5_16 (by decide)
  have h6_17 := u17.v 6 h6_16 (by decide)
  have h7_17 := u17.v 7 h7_16 (by decide)
  clear h1_16 h4_16 h5_16 h6_16 h7_16 h19_16 u17 F16
  change Code.wp _ _ _ _ _
  refine wp_cond_false h20_17 ?_
  refine wp_skip ?_
  change Code.wp _ _ _ _ _
  refine wp_seq ?_
  refine rg_list ?_
  refine wl_p (ex_mv (v := (.pointer (some ⟨gp, 0, none⟩))) h6_17) (by rw [F17.size]; decide) fun a18 u18 (h22_18 : a18.tmps.getD 22 undef = (.pointer (some ⟨gp, 0, none⟩))) => ?_
  have F18 := F17.pt u18
  have h1_18 := u18.v 1 h1_17 (by decide)
  have h4_18 := u18.v 4 h4_17 (by decide)
  have h5_18 := u18.v 5 h5_17 (by decide)
  have h6_18 := u18.v 6 h6_17 (by decide)
  clear h1_17 h4_17 h5_17 h6_17 h7_17 h20_17 u18 F17
  refine wl_p (ex_mv (v := (.int .u64 cap)) h1_18) (by rw [F18.size]; decide) fun a19 u19 (h23_19 : a19.tmps.getD 23 undef = (.int .u64 cap)) => ?_
  have F19 := F18.pt u19
  have h4_19 := u19.v 4 h4_18 (by decide)
  have h5_19 := u19.v 5 h5_18 (by decide)
  have h6_19 := u19.v 6 h6_18 (by decide)
  have h22_19 := u19.v 22 h22_18 (by decide)
  clear h1_18 h4_18 h5_18 h6_18 h22_18 u19 F18
  obtain ⟨gg, hgg⟩ : ∃ g, w4.heap.size = g := ⟨_, rfl⟩
  have ne_p_g : gp ≠ gg := by have := Bp_4.lt; omega
  have ge_g : w0.heap.size ≤ gg := by have := Kp4.size; omega
  obtain ⟨w5, hr5, Bg_5, G5, hs5⟩ := mkptr_run hgg cap (w := w4) (by omega)
  have Bp_5 := Bp_4.gn G5
  have Kp5 := Kp4.new G5
  refine wl_p (ex_ms h23_19 h23_19 hr5) (by rw [F19.size]; decide) fun a20 u20 (h24_20 : a20.tmps.getD 24 undef = (.slice (some ⟨gg, 0, none⟩) cap cap)) => ?_
  have F20 := F19.pt u20
  have h4_20 := u20.v 4 h4_19 (by decide)
  have h5_20 := u20.v 5 h5_19 (by decide)
  have h6_20 := u20.v 6 h6_19 (by decide)
  have h22_20 := u20.v 22 h22_19 (by decide)
  clear h4_19 h5_19 h6_19 h22_19 h23_19 u20 F19
  clear Bp_4 Kp4 hr5 G5 hs5 hgg
  refine wl_p (ex_nil (ad := ⟨gp, 0, none⟩) h22_20) (by rw [F20.size]; decide) fun a21 u21 (h25_21 : a21.tmps.getD 25 undef = (.pointer (some ⟨gp, 0, none⟩))) => ?_
  have F21 := F20.pt u21
  have h4_21 := u21.v 4 h4_20 (by decide)
  have h5_21 := u21.v 5 h5_20 (by decide)
  have h6_21 := u21.v 6 h6_20 (by decide)
  have h24_21 := u21.v 24 h24_20 (by decide)
  clear h4_20 h5_20 h6_20 h22_20 h24_20 u21 F20
  refine wl_p (ex_fa (T := 70) (f := 2) (k := 2) (b := gp) (fun _ _ => by kernel_rfl) h25_21) (by rw [F21.size]; decide) fun a22 u22 (h26_22 : a22.tmps.getD 26 undef = (.pointer (some ⟨gp, 2, none⟩))) => ?_
  have F22 := F21.pt u22
  have h4_22 := u22.v 4 h4_21 (by decide)
  have h5_22 := u22.v 5 h5_21 (by decide)
  have h6_22 := u22.v 6 h6_21 (by decide)
  have h24_22 := u22.v 24 h24_21 (by decide)
  clear h4_21 h5_21 h6_21 h24_21 h25_21 u22 F21
  obtain ⟨w6, hr6, Bp_6, G6⟩ := st_run (T := 61) (o := 2) (v := (.slice (some ⟨gg, 0, none⟩) cap cap)) (cs' := #[(.float .f64 0), (.int .u64 0), (.slice (some ⟨gg, 0, none⟩) cap cap), (.string { data := #[] }), (.bool false), (.bool false), (.int .u64 0), (.int .u64 0), (.float .f64 0), (.bool false), (.bool false), (.int .i64 0), (.int .u64 win), (.int .u64 cap), (.int .u64 0), (.int .u64 0), (.int .u64 0), (.slice none 0 0), (.int .i64 0), (.int .i8 0), (.int .u8 3), (.pointer none), (.pointer none)]) (fun _ => by kernel_rfl) Bp_5 rfl (by simp) rfl
  have Bg_6 := Bg_5.gk G6 (Ne.symm ne_p_g)
  have Kp6 := Kp5.set G6 (Or.inr ge_p)
  refine wl_n (ex_st h26_22 h24_22 hr6) ?_
  clear Bg_5 Kp5 Bp_5 hr6 G6
  change Code.wp _ _ _ _ _
  refine wp_seq ?_
  refine rg_list ?_
  refine wl_p (ex_mv (v := (.pointer (some ⟨gp, 0, none⟩))) h6_22) (by rw [F22.size]; decide) fun a23 u23 (h27_23 : a23.tmps.getD 27 undef = (.pointer (some ⟨gp, 0, none⟩))) => ?_
  have F23 := F22.pt u23
  have h4_23 := u23.v 4 h4_22 (by decide)
  have h5_23 := u23.v 5 h5_22 (by decide)
  clear h4_22 h5_22 h6_22 h24_22 h26_22 u23 F22
  refine wl_p (ex_as (v := (.pointer (some ⟨gp, 0, none⟩))) h27_23) (by rw [F23.size]; decide) fun a24 u24 (h4_24 : a24.tmps.getD 4 undef = (.pointer (some ⟨gp, 0, none⟩))) => ?_
  have F24 := F23.pt u24
  have h5_24 := u24.v 5 h5_23 (by decide)
  clear h4_23 h5_23 h27_23 u24 F23
  refine wl_p (ex_as (v := .nilIface) rfl) (by rw [F24.size]; decide) fun a25 u25 (h5_25 : a25.tmps.getD 5 undef = .nilIface) => ?_
  have F25 := F24.pt u25
  have h4_25 := u25.v 4 h4_24 (by decide)
  clear h5_24 h4_24 u25 F24
  change Code.wp _ _ _ _ _
  refine wp_ret ?_
  try simp only [Exit.then, Exit.inBlock]
  exact bodyPost_ret (v := .tuple #[(.pointer (some ⟨gp, 0, none⟩)), .nilIface]) ((results_tmp2 rfl _ _ _).trans (by rw [h4_25, h5_25])) F25.defers ⟨gp, gg, rfl, Bp_6, Bg_6, Ne.symm ne_p_g, Kp6.grown, ge_p, ge_g⟩
theorem reset17 {b : Nat} {c0 c1 c2 c3 c4 c5 c6 c7 c8 c9 c10 c11 c12 c13 c14 c15 c16 c20 c21 c22 : Value} {w0 : World} (hb : Blk w0 b 70 #[c0, c1, c2, c3, c4, c5, c6, c7, c8, c9, c10, c11, c12, c13, c14, c15, c16, (.slice none 0 0), (.int .i64 0), (.int .i8 0), c20, c21, c22]) :
    Calls Tryz.prog 32 #[.pointer (some ⟨b, 17, none⟩)] w0 fun e w' => e = .returned (.tuple #[]) ∧ Blk w' b 70 #[c0, c1, c2, c3, c4, c5, c6, c7, c8, c9, c10, c11, c12, c13, c14, c15, c16, (.slice none 0 0), (.int .i64 0), (.int .i8 0), c20, c21, c22] ∧ w0.grownBy w' (some b) := by
  refine calls_of_wp Tryz.func32 rfl ?_
  generalize hA : Act.mk _ _ = a0
  have F0 : Fz 16 a0 := by subst hA; exact ⟨by simp [Tryz.ntmps32], rfl⟩
  have h0_0 : a0.tmps.getD 0 undef = (.pointer (some ⟨b, 17, none⟩)) := by subst hA; exact fr_arg rfl
  clear hA
  have Q0 := grown_refl w0 (some b)
  refine wp_seq ?_
  refine rg_list ?_
  refine wl_p (ex_mv (v := (.pointer (some ⟨b, 17, none⟩))) h0_0) (by rw [F0.size]; decide) fun a1 u1 (h2_1 : a1.tmps.getD 2 undef = (.pointer (some ⟨b, 17, none⟩))) => ?_
  have F1 := F0.pt u1
  have h0_1 := u1.v 0 h0_0 (by decide)
  clear h0_0 u1 F0
  refine wl_p (ex_mv (v := (.pointer (some ⟨b, 17, none⟩))) h0_1) (by rw [F1.size]; decide) fun a2 u2 (h3_2 : a2.tmps.getD 3 undef = (.pointer (some ⟨b, 17, none⟩))) => ?_
  have F2 := F1.pt u2
  have h0_2 := u2.v 0 h0_1 (by decide)
  have h2_2 := u2.v 2 h2_1 (by decide)
  clear h0_1 h2_1 u2 F1
  refine wl_p (ex_nil (ad := ⟨b, 17, none⟩) h3_2) (by rw [F2.size]; decide) fun a3 u3 (h4_3 : a3.tmps.getD 4 undef = (.pointer (some ⟨b, 17, none⟩))) => ?_
  have F3 := F2.pt u3
  have h0_3 := u3.v 0 h0_2 (by decide)
  have h2_3 := u3.v 2 h2_2 (by decide)
  clear h0_2 h2_2 h3_2 u3 F2
  refine wl_p (ex_fag (vx := (.pointer (some ⟨b, 17, none⟩))) (v := (.pointer (some ⟨b, 17, none⟩))) h4_3 (by kernel_rfl)) (by rw [F3.size]; decide) fun a4 u4 (h5_4 : a4.tmps.getD 5 undef = (.pointer (some ⟨b, 17, none⟩))) => ?_
  have F4 := F3.pt u4
  have h0_4 := u4.v 0 h0_3 (by decide)
  have h2_4 := u4.v 2 h2_3 (by decide)
  clear h0_3 h2_3 h4_3 u4 F3
  refine wl_p (ex_ld (v := (.slice none 0 0)) (ad := ⟨b, 17, none⟩) (fun _ => by kernel_rfl) h5_4 (hb.cell 17)) (by rw [F4.size]; decide) fun a5 u5 (h6_5 : a5.tmps.getD 6 undef = (.slice none 0 0)) => ?_
  have F5 := F4.pt u5
  have h0_5 := u5.v 0 h0_4 (by decide)
  have h2_5 := u5.v 2 h2_4 (by decide)
  clear h0_4 h2_4 h5_4 u5 F4
  refine wl_p (ex_sl (v := .slice none 0 0) h6_5 rfl rfl rfl (by kernel_rfl)) (by rw [F5.size]; decide) fun a6 u6 (h7_6 : a6.tmps.getD 7 undef = (.slice none 0 0)) => ?_
  have F6 := F5.pt u6
  have h0_6 := u6.v 0 h0_5 (by decide)
  have h2_6 := u6.v 2 h2_5 (by decide)
  clear h0_5 h2_5 h6_5 u6 F5
  refine wl_p (ex_nil (ad := ⟨b, 17, none⟩) h2_6) (by rw [F6.size]; decide) fun a7 u7 (h8_7 : a7.tmps.getD 8 undef = (.pointer (some ⟨b, 17, none⟩))) => ?_
  have F7 := F6.pt u7
  have h0_7 := u7.v 0 h0_6 (by decide)
  have h7_7 := u7.v 7 h7_6 (by decide)
  clear h0_6 h2_6 h7_6 u7 F6
  refine wl_p (ex_fag (vx := (.pointer (some ⟨b, 17, none⟩))) (v := (.pointer (some ⟨b, 17, none⟩))) h8_7 (by kernel_rfl)) (by rw [F7.size]; decide) fun a8 u8 (h9_8 : a8.tmps.getD 9 undef = (.pointer (some ⟨b, 17, none⟩))) => ?_
  have F8 := F7.pt u8
  have h0_8 := u8.v 0 h0_7 (by decide)
  have h7_8 := u8.v 7 h7_7 (by decide)
  clear h0_7 h7_7 h8_7 u8 F7
  obtain ⟨w1, hr1, Bb_1, G1⟩ := st_run (T := 23) (o := 17) (v := (.slice none 0 0)) (cs' := #[c0, c1, c2, c3, c4, c5, c6, c7, c8, c9, c10, c11, c12, c13, c14, c15, c16, (.slice none 0 0), (.int .i64 0), (.int .i8 0), c20, c21, c22]) (fun _ => by kernel_rfl) hb rfl (by simp) rfl
  have Q1 : w0.grownBy w1 (some b) := grown_trans Q0 G1
  refine wl_n (ex_st h9_8 h7_8 hr1) ?_
  clear Q0 hb hr1 G1
  change Code.wp _ _ _ _ _
  refine wp_seq ?_
  refine rg_list ?_
  refine wl_p (ex_mv (v := (.pointer (some ⟨b, 17, none⟩))) h0_8) (by rw [F8.size]; decide) fun a9 u9 (h10_9 : a9.tmps.getD 10 undef = (.pointer (some ⟨b, 17, none⟩))) => ?_
  have F9 := F8.pt u9
  have h0_9 := u9.v 0 h0_8 (by decide)
  clear h0_8 h7_8 h9_8 u9 F8
  refine wl_p (ex_nil (ad := ⟨b, 17, none⟩) h10_9) (by rw [F9.size]; decide) fun a10 u10 (h11_10 : a10.tmps.getD 11 undef = (.pointer (some ⟨b, 17, none⟩))) => ?_
  have F10 := F9.pt u10
  have h0_10 := u10.v 0 h0_9 (by decide)
  clear h0_9 h10_9 u10 F9
  refine wl_p (ex_fag (vx := (.pointer (some ⟨b, 17, none⟩))) (v := (.pointer (some ⟨b, 18, none⟩))) h11_10 (by kernel_rfl)) (by rw [F10.size]; decide) fun a11 u11 (h12_11 : a11.tmps.getD 12 undef = (.pointer (some ⟨b, 18, none⟩))) => ?_
  have F11 := F10.pt u11
  have h0_11 := u11.v 0 h0_10 (by decide)
  clear h0_10 h11_10 u11 F10
  obtain ⟨w2, hr2, Bb_2, G2⟩ := st_run (T := 3) (o := 18) (v := (.int .i64 0)) (cs' := #[c0, c1, c2, c3, c4, c5, c6, c7, c8, c9, c10, c11, c12, c13, c14, c15, c16, (.slice none 0 0), (.int .i64 0), (.int .i8 0), c20, c21, c22]) (fun _ => by kernel_rfl) Bb_1 rfl (by simp) rfl
  have Q2 : w0.grownBy w2 (some b) := grown_trans Q1 G2
  refine wl_n (ex_st h12_11 rfl hr2) ?_
  clear Q1 Bb_1 hr2 G2
  change Code.wp _ _ _ _ _
  refine rg_list ?_
  refine wl_p (ex_mv (v := (.pointer (some ⟨b, 17, none⟩))) h0_11) (by rw [F11.size]; decide) fun a12 u12 (h13_12 : a12.tmps.getD 13 undef = (.pointer (some ⟨b, 17, none⟩))) => ?_
  have F12 := F11.pt u12
  clear h0_11 h12_11 u12 F11
  refine wl_p (ex_nil (ad := ⟨b, 17, none⟩) h13_12) (by rw [F12.size]; decide) fun a13 u13 (h14_13 : a13.tmps.getD 14 undef = (.pointer (some ⟨b, 17, none⟩))) => ?_
  have F13 := F12.pt u13
  clear h13_12 u13 F12
  refine wl_p (ex_fag (vx := (.pointer (some ⟨b, 17, none⟩))) (v := (.pointer (some ⟨b, 19, none⟩))) h14_13 (by kernel_rfl)) (by rw [F13.size]; decide) fun a14 u14 (h15_14 : a14.tmps.getD 15 undef = (.pointer (some ⟨b, 19, none⟩))) => ?_
  have F14 := F13.pt u14
  clear h14_13 u14 F13
  obtain ⟨w3, hr3, Bb_3, G3⟩ := st_run (T := 64) (o := 19) (v := (.int .i8 0)) (cs' := #[c0, c1, c2, c3, c4, c5, c6, c7, c8, c9, c10, c11, c12, c13, c14, c15, c16, (.slice none 0 0), (.int .i64 0), (.int .i8 0), c20, c21, c22]) (fun _ => by kernel_rfl) Bb_2 rfl (by simp) rfl
  have Q3 : w0.grownBy w3 (some b) := grown_trans Q2 G3
  refine wl_n (ex_st h15_14 rfl hr3) ?_
  clear Q2 Bb_2 hr3 G3
  exact bodyPost_end (v := .tuple #[]) (results_none rfl _ _ _) F14.defers ⟨rfl, Bb_3, Q3⟩
theorem setver {b : Nat} {v : Nat} {c0 c1 c2 c3 c4 c5 c6 c7 c8 c9 c10 c11 c12 c13 c14 c15 c16 c17 c18 c19 c20 c21 c22 : Value} {w0 : World} (hb : Blk w0 b 70 #[c0, c1, c2, c3, c4, c5, c6, c7, c8, c9, c10, c11, c12, c13, c14, c15, c16, c17, c18, c19, c20, c21, c22]) :
    Calls Tryz.prog 20 #[pt b, (.int .u8 v)] w0 fun e w' => e = .returned (.tuple #[]) ∧ Blk w' b 70 #[c0, c1, c2, c3, c4, c5, c6, c7, c8, c9, c10, c11, c12, c13, c14, c15, c16, c17, c18, c19, (.int .u8 v), c21, c22] ∧ w0.grownBy w' (some b) := by
  refine calls_of_wp Tryz.func20 rfl ?_
  generalize hA : Act.mk _ _ = a0
  have F0 : Fz 8 a0 := by subst hA; exact ⟨by simp [Tryz.ntmps20], rfl⟩
  have h0_0 : a0.tmps.getD 0 undef = (.pointer (some ⟨b, 0, none⟩)) := by subst hA; exact fr_arg rfl
  have h1_0 : a0.tmps.getD 1 undef = (.int .u8 v) := by subst hA; exact fr_arg rfl
  clear hA
  have Q0 := grown_refl w0 (some b)
  refine rg_list ?_
  refine wl_p (ex_mv (v := (.pointer (some ⟨b, 0, none⟩))) h0_0) (by rw [F0.size]; decide) fun a1 u1 (h4_1 : a1.tmps.getD 4 undef = (.pointer (some ⟨b, 0, none⟩))) => ?_
  have F1 := F0.pt u1
  have h1_1 := u1.v 1 h1_0 (by decide)
  clear h0_0 h1_0 u1 F0
  refine wl_p (ex_mv (v := (.int .u8 v)) h1_1) (by rw [F1.size]; decide) fun a2 u2 (h5_2 : a2.tmps.getD 5 undef = (.int .u8 v)) => ?_
  have F2 := F1.pt u2
  have h4_2 := u2.v 4 h4_1 (by decide)
  clear h1_1 h4_1 u2 F1
  refine wl_p (ex_nil (ad := ⟨b, 0, none⟩) h4_2) (by rw [F2.size]; decide) fun a3 u3 (h6_3 : a3.tmps.getD 6 undef = (.pointer (some ⟨b, 0, none⟩))) => ?_
  have F3 := F2.pt u3
  have h5_3 := u3.v 5 h5_2 (by decide)
  clear h4_2 h5_2 u3 F2
  refine wl_p (ex_fa (T := 70) (f := 18) (k := 20) (b := b) (fun _ _ => by kernel_rfl) h6_3) (by rw [F3.size]; decide) fun a4 u4 (h7_4 : a4.tmps.getD 7 undef = (.pointer (some ⟨b, 20, none⟩))) => ?_
  have F4 := F3.pt u4
  have h5_4 := u4.v 5 h5_3 (by decide)
  clear h5_3 h6_3 u4 F3
  obtain ⟨w1, hr1, Bb_1, G1⟩ := st_run (T := 5) (o := 20) (v := (.int .u8 v)) (cs' := #[c0, c1, c2, c3, c4, c5, c6, c7, c8, c9, c10, c11, c12, c13, c14, c15, c16, c17, c18, c19, (.int .u8 v), c21, c22]) (fun _ => by kernel_rfl) hb rfl (by simp) rfl
  have Q1 : w0.grownBy w1 (some b) := grown_trans Q0 G1
  refine wl_n (ex_st h7_4 h5_4 hr1) ?_
  clear Q0 hb hr1 G1
  exact bodyPost_end (v := .tuple #[]) (results_none rfl _ _ _) F4.defers ⟨rfl, Bb_1, Q1⟩
theorem version3 {b : Nat} {c0 c1 c2 c3 c4 c5 c6 c7 c8 c9 c10 c11 c12 c13 c14 c15 c16 c17 c18 c19 c21 c22 : Value} {w0 : World} (hb : Blk w0 b 70 #[c0, c1, c2, c3, c4, c5, c6, c7, c8, c9, c10, c11, c12, c13, c14, c15, c16, c17, c18, c19, (.int .u8 3), c21, c22]) :
    Calls Tryz.prog 34 #[.pointer (some ⟨b, 20, none⟩), .int .u8 3] w0 fun e w' => e = .returned (.tuple #[]) ∧ w0 = w' := by
  refine calls_of_wp Tryz.func34 rfl ?_
  generalize hA : Act.mk _ _ = a0
  have F0 : Fz 12 a0 := by subst hA; exact ⟨by simp [Tryz.ntmps34], rfl⟩
  have h0_0 : a0.tmps.getD 0 undef = (.pointer (some ⟨b, 20, none⟩)) := by subst hA; exact fr_arg rfl
  have h1_0 : a0.tmps.getD 1 undef = (.int .u8 3) := by subst hA; exact fr_arg rfl
  clear hA
  refine wp_seq ?_
  refine rg_list ?_
  refine wl_p (ex_mv (v := (.pointer (some ⟨b, 20, none⟩))) h0_0) (by rw [F0.size]; decide) fun a1 u1 (h4_1 : a1.tmps.getD 4 undef = (.pointer (some ⟨b, 20, none⟩))) => ?_
  have F1 := F0.pt u1
  have h0_1 := u1.v 0 h0_0 (by decide)
  have h1_1 := u1.v 1 h1_0 (by decide)
  clear h0_0 h1_0 u1 F0
  refine wl_p (ex_nil (ad := ⟨b, 20, none⟩) h4_1) (by rw [F1.size]; decide) fun a2 u2 (h5_2 : a2.tmps.getD 5 undef = (.pointer (some ⟨b, 20, none⟩))) => ?_
  have F2 := F1.pt u2
  have h0_2 := u2.v 0 h0_1 (by decide)
  have h1_2 := u2.v 1 h1_1 (by decide)
  clear h0_1 h1_1 h4_1 u2 F1
  refine wl_p (ex_ld (v := (.int .u8 3)) (ad := ⟨b, 20, none⟩) (fun _ => by kernel_rfl) h5_2 (hb.cell 20)) (by rw [F2.size]; decide) fun a3 u3 (h6_3 : a3.tmps.getD 6 undef = (.int .u8 3)) => ?_
  have F3 := F2.pt u3
  have h0_3 := u3.v 0 h0_2 (by decide)
  have h1_3 := u3.v 1 h1_2 (by decide)
  clear h0_2 h1_2 h5_2 u3 F2
  refine wl_p (ex_mv (v := (.int .u8 3)) h1_3) (by rw [F3.size]; decide) fun a4 u4 (h7_4 : a4.tmps.getD 7 undef = (.int .u8 3)) => ?_
  have F4 := F3.pt u4
  have h0_4 := u4.v 0 h0_3 (by decide)
  have h1_4 := u4.v 1 h1_3 (by decide)
  have h6_4 := u4.v 6 h6_3 (by decide)
  clear h0_3 h1_3 h6_3 u4 F3
  refine wl_p (ex_bin (vx := (.int .u8 3)) (vy := (.int .u8 3)) (v := (.bool false)) h6_4 h7_4 (by kernel_rfl)) (by rw [F4.size]; decide) fun a5 u5 (h8_5 : a5.tmps.getD 8 undef = (.bool false)) => ?_
  have F5 := F4.pt u5
  have h0_5 := u5.v 0 h0_4 (by decide)
  have h1_5 := u5.v 1 h1_4 (by decide)
  clear h0_4 h1_4 h6_4 h7_4 u5 F4
  change Code.wp _ _ _ _ _
  refine wp_cond_false h8_5 ?_
  refine wp_skip ?_
  exact bodyPost_end (v := .tuple #[]) (results_none rfl _ _ _) F5.defers ⟨rfl, rfl⟩
theorem asint_true {b : Nat} {c0 c1 c2 c3 c4 c5 c6 c7 c8 c9 c10 c11 c12 c13 c14 c15 c16 c17 c18 c19 c21 c22 : Value} {w0 : World} (hb : Blk w0 b 70 #[c0, c1, c2, c3, c4, c5, c6, c7, c8, c9, c10, c11, c12, c13, c14, c15, c16, c17, c18, c19, (.int .u8 3), c21, c22]) :
    Calls Tryz.prog 19 #[pt b, .bool true] w0 fun e w' => e = .returned (.tuple #[]) ∧ Blk w' b 70 #[c0, c1, c2, c3, c4, c5, c6, c7, c8, c9, .bool true, c11, c12, c13, c14, c15, c16, c17, c18, c19, (.int .u8 3), c21, c22] ∧ w0.grownBy w' (some b) := by
  refine calls_of_wp Tryz.func19 rfl ?_
  generalize hA : Act.mk _ _ = a0
  have F0 : Fz 13 a0 := by subst hA; exact ⟨by simp [Tryz.ntmps19], rfl⟩
  have h0_0 : a0.tmps.getD 0 undef = (.pointer (some ⟨b, 0, none⟩)) := by subst hA; exact fr_arg rfl
  have h1_0 : a0.tmps.getD 1 undef = (.bool true) := by subst hA; exact fr_arg rfl
  clear hA
  have Q0 := grown_refl w0 (some b)
  refine wp_seq ?_
  refine wp_seq ?_
  refine rg_list ?_
  refine wl_p (ex_mv (v := (.bool true)) h1_0) (by rw [F0.size]; decide) fun a1 u1 (h4_1 : a1.tmps.getD 4 undef = (.bool true)) => ?_
  have F1 := F0.pt u1
  have h0_1 := u1.v 0 h0_0 (by decide)
  have h1_1 := u1.v 1 h1_0 (by decide)
  clear h0_0 h1_0 u1 F0
  change Code.wp _ _ _ _ _
  refine wp_cond_true h4_1 ?_
  refine rg_list ?_
  refine wl_p (ex_mv (v := (.pointer (some ⟨b, 0, none⟩))) h0_1) (by rw [F1.size]; decide) fun a2 u2 (h5_2 : a2.tmps.getD 5 undef = (.pointer (some ⟨b, 0, none⟩))) => ?_
  have F2 := F1.pt u2
  have h0_2 := u2.v 0 h0_1 (by decide)
  have h1_2 := u2.v 1 h1_1 (by decide)
  clear h0_1 h1_1 h4_1 u2 F1
  refine wl_p (ex_nil (ad := ⟨b, 0, none⟩) h5_2) (by rw [F2.size]; decide) fun a3 u3 (h6_3 : a3.tmps.getD 6 undef = (.pointer (some ⟨b, 0, none⟩))) => ?_
  have F3 := F2.pt u3
  have h0_3 := u3.v 0 h0_2 (by decide)
  have h1_3 := u3.v 1 h1_2 (by decide)
  clear h0_2 h1_2 h5_2 u3 F2
  refine wl_p (ex_fa (T := 70) (f := 18) (k := 20) (b := b) (fun _ _ => by kernel_rfl) h6_3) (by rw [F3.size]; decide) fun a4 u4 (h7_4 : a4.tmps.getD 7 undef = (.pointer (some ⟨b, 20, none⟩))) => ?_
  have F4 := F3.pt u4
  have h0_4 := u4.v 0 h0_3 (by decide)
  have h1_4 := u4.v 1 h1_3 (by decide)
  clear h0_3 h1_3 h6_3 u4 F3
  refine wl_cl (args := #[(.pointer (some ⟨b, 20, none⟩)), (.int .u8 3)]) (R := fun v w' => v = (.tuple #[]) ∧ (w0 = w')) (ex_cl (fun _ _ => by kernel_rfl) (arg2 h7_4 rfl)) ((version3 hb).mono fun _ _ h => ⟨_, h.1, rfl, h.2⟩) (by rw [F4.size]; decide) ?_
  rintro v w' ⟨rfl, rfl⟩
  intro a5 u5 h8_5
  have F5 := F4.pt u5
  have h0_5 := u5.v 0 h0_4 (by decide)
  have h1_5 := u5.v 1 h1_4 (by decide)
  clear h0_4 h1_4 h7_4 u5 F4
  change Code.wp _ _ _ _ _
  refine rg_list ?_
  refine wl_p (ex_mv (v := (.pointer (some ⟨b, 0, none⟩))) h0_5) (by rw [F5.size]; decide) fun a6 u6 (h9_6 : a6.tmps.getD 9 undef = (.pointer (some ⟨b, 0, none⟩))) => ?_
  have F6 := F5.pt u6
  have h1_6 := u6.v 1 h1_5 (by decide)
  clear h0_5 h1_5 h8_5 u6 F5
  refine wl_p (ex_mv (v := (.bool true)) h1_6) (by rw [F6.size]; decide) fun a7 u7 (h10_7 : a7.tmps.getD 10 undef = (.bool true)) => ?_
  have F7 := F6.pt u7
  have h9_7 := u7.v 9 h9_6 (by decide)
  clear h1_6 h9_6 u7 F6
  refine wl_p (ex_nil (ad := ⟨b, 0, none⟩) h9_7) (by rw [F7.size]; decide) fun a8 u8 (h11_8 : a8.tmps.getD 11 undef = (.pointer (some ⟨b, 0, none⟩))) => ?_
  have F8 := F7.pt u8
  have h10_8 := u8.v 10 h10_7 (by decide)
  clear h9_7 h10_7 u8 F7
  refine wl_p (ex_fa (T := 70) (f := 10) (k := 10) (b := b) (fun _ _ => by kernel_rfl) h11_8) (by rw [F8.size]; decide) fun a9 u9 (h12_9 : a9.tmps.getD 12 undef = (.pointer (some ⟨b, 10, none⟩))) => ?_
  have F9 := F8.pt u9
  have h10_9 := u9.v 10 h10_8 (by decide)
  clear h10_8 h11_8 u9 F8
  obtain ⟨w1, hr1, Bb_1, G1⟩ := st_run (T := 4) (o := 10) (v := (.bool true)) (cs' := #[c0, c1, c2, c3, c4, c5, c6, c7, c8, c9, (.bool true), c11, c12, c13, c14, c15, c16, c17, c18, c19, (.int .u8 3), c21, c22]) (fun _ => by kernel_rfl) hb rfl (by simp) rfl
  have Q1 : w0.grownBy w1 (some b) := grown_trans Q0 G1
  refine wl_n (ex_st h12_9 h10_9 hr1) ?_
  clear Q0 hb hr1 G1
  exact bodyPost_end (v := .tuple #[]) (results_none rfl _ _ _) F9.defers ⟨rfl, Bb_1, Q1⟩
theorem asint_false {b : Nat} {c0 c1 c2 c3 c4 c5 c6 c7 c8 c9 c10 c11 c12 c13 c14 c15 c16 c17 c18 c19 c21 c22 : Value} {w0 : World} (hb : Blk w0 b 70 #[c0, c1, c2, c3, c4, c5, c6, c7, c8, c9, c10, c11, c12, c13, c14, c15, c16, c17, c18, c19, (.int .u8 3), c21, c22]) :
    Calls Tryz.prog 19 #[pt b, .bool false] w0 fun e w' => e = .returned (.tuple #[]) ∧ Blk w' b 70 #[c0, c1, c2, c3, c4, c5, c6, c7, c8, c9, .bool false, c11, c12, c13, c14, c15, c16, c17, c18, c19, (.int .u8 3), c21, c22] ∧ w0.grownBy w' (some b) := by
  refine calls_of_wp Tryz.func19 rfl ?_
  generalize hA : Act.mk _ _ = a0
  have F0 : Fz 13 a0 := by subst hA; exact ⟨by simp [Tryz.ntmps19], rfl⟩
  have h0_0 : a0.tmps.getD 0 undef = (.pointer (some ⟨b, 0, none⟩)) := by subst hA; exact fr_arg rfl
  have h1_0 : a0.tmps.getD 1 undef = (.bool false) := by subst hA; exact fr_arg rfl
  clear hA
  have Q0 := grown_refl w0 (some b)
  refine wp_seq ?_
  refine wp_seq ?_
  refine rg_list ?_
  refine wl_p (ex_mv (v := (.bool false)) h1_0) (by rw [F0.size]; decide) fun a1 u1 (h4_1 : a1.tmps.getD 4 undef = (.bool false)) => ?_
  have F1 := F0.pt u1
  have h0_1 := u1.v 0 h0_0 (by decide)
  have h1_1 := u1.v 1 h1_0 (by decide)
  clear h0_0 h1_0 u1 F0
  change Code.wp _ _ _ _ _
  refine wp_cond_false h4_1 ?_
  refine wp_skip ?_
  change Code.wp _ _ _ _ _
  refine rg_list ?_
  refine wl_p (ex_mv (v := (.pointer (some ⟨b, 0, none⟩))) h0_1) (by rw [F1.size]; decide) fun a2 u2 (h9_2 : a2.tmps.getD 9 undef = (.pointer (some ⟨b, 0, none⟩))) => ?_
  have F2 := F1.pt u2
  have h1_2 := u2.v 1 h1_1 (by decide)
  clear h0_1 h1_1 h4_1 u2 F1
  refine wl_p (ex_mv (v := (.bool false)) h1_2) (by rw [F2.size]; decide) fun a3 u3 (h10_3 : a3.tmps.getD 10 undef = (.bool false)) => ?_
  have F3 := F2.pt u3
  have h9_3 := u3.v 9 h9_2 (by decide)
  clear h1_2 h9_2 u3 F2
  refine wl_p (ex_nil (ad := ⟨b, 0, none⟩) h9_3) (by rw [F3.size]; decide) fun a4 u4 (h11_4 : a4.tmps.getD 11 undef = (.pointer (some ⟨b, 0, none⟩))) => ?_
  have F4 := F3.pt u4
  have h10_4 := u4.v 10 h10_3 (by decide)
  clear h9_3 h10_3 u4 F3
  refine wl_p (ex_fa (T := 70) (f := 10) (k := 10) (b := b) (fun _ _ => by kernel_rfl) h11_4) (by rw [F4.size]; decide) fun a5 u5 (h12_5 : a5.tmps.getD 12 undef = (.pointer (some ⟨b, 10, none⟩))) => ?_
  have F5 := F4.pt u5
  have h10_5 := u5.v 10 h10_4 (by decide)
  clear h10_4 h11_4 u5 F4
  obtain ⟨w1, hr1, Bb_1, G1⟩ := st_run (T := 4) (o := 10) (v := (.bool false)) (cs' := #[c0, c1, c2, c3, c4, c5, c6, c7, c8, c9, (.bool false), c11, c12, c13, c14, c15, c16, c17, c18, c19, (.int .u8 3), c21, c22]) (fun _ => by kernel_rfl) hb rfl (by simp) rfl
  have Q1 : w0.grownBy w1 (some b) := grown_trans Q0 G1
  refine wl_n (ex_st h12_5 h10_5 hr1) ?_
  clear Q0 hb hr1 G1
  exact bodyPost_end (v := .tuple #[]) (results_none rfl _ _ _) F5.defers ⟨rfl, Bb_1, Q1⟩

/-- keys as data: none, or one -/
inductive KeySl (w : World) : Value → Option KeyD → Prop
  | nil : KeySl w (.slice none 0 0) none
  | mk {p : Nat} {k : KeyD} (h : Blk w p 99 (keyC k)) (ok : k.Ok) : KeySl w (.slice (some ⟨p, 0, none⟩) 1 1) (some k)
inductive MapSl (w : World) : Value → Option MapD → Prop
  | nil : MapSl w (.slice none 0 0) none
  | mk {p : Nat} {m : MapD} (h : Blk w p 102 (mapC m)) (ok : m.Ok) : MapSl w (.slice (some ⟨p, 0, none⟩) 1 1) (some m)
/-- a key of its own block, from lo on -/
inductive KeyP (w : World) (lo : Nat) : Option Nat → Option KeyD → Prop
  | nil : KeyP w lo none none
  | mk {p : Nat} {k : KeyD} (h : Blk w p 101 (keyC k)) (hp : lo ≤ p) (ok : k.Ok) : KeyP w lo (some p) (some k)
inductive MapP (w : World) (lo : Nat) : Option Nat → Option MapD → Prop
  | nil : MapP w lo none none
  | mk {p : Nat} {m : MapD} (h : Blk w p 103 (mapC m)) (hp : lo ≤ p) (ok : m.Ok) : MapP w lo (some p) (some m)
section
variable {w w' : World} {v : Value} {k : Option KeyD} {m : Option MapD} {lo : Nat} {kp : Option Nat}
theorem KeySl.gn (h : KeySl w v k) (hb : w.grownBy w' none) : KeySl w' v k := by
  cases h with
  | nil => exact .nil
  | mk h ok => exact .mk (h.gn hb) ok
theorem MapSl.gn (h : MapSl w v m) (hb : w.grownBy w' none) : MapSl w' v m := by
  cases h with
  | nil => exact .nil
  | mk h ok => exact .mk (h.gn hb) ok
theorem KeyP.gn (h : KeyP w lo kp k) (hb : w.grownBy w' none) : KeyP w' lo kp k := by
  cases h with
  | nil => exact .nil
  | mk h hp ok => exact .mk (h.gn hb) hp ok
theorem MapP.gn (h : MapP w lo kp m) (hb : w.grownBy w' none) : MapP w' lo kp m := by
  cases h with
  | nil => exact .nil
  | mk h hp ok => exact .mk (h.gn hb) hp ok
theorem KeyP.lo' {lo' : Nat} (h : KeyP w lo kp k) (hl : lo' ≤ lo) : KeyP w lo' kp k := by
  cases h with
  | nil => exact .nil
  | mk h hp ok => exact .mk h (by omega) ok
theorem MapP.lo' {lo' : Nat} (h : MapP w lo kp m) (hl : lo' ≤ lo) : MapP w lo' kp m := by
  cases h with
  | nil => exact .nil
  | mk h hp ok => exact .mk h (by omega) ok
end

theorem keyTo_no {w0 : World} : Calls Tryz.prog 17 #[.slice none 0 0] w0 fun e w' => ∃ kp, e = .returned (pto kp) ∧ KeyP w' w0.heap.size kp none ∧ w0.grownBy w' none := by
  refine calls_of_wp Tryz.func17 rfl ?_
  generalize hA : Act.mk _ _ = a0
  have F0 : Fz 28 a0 := by subst hA; exact ⟨by simp [Tryz.ntmps17], rfl⟩
  have h0_0 : a0.tmps.getD 0 undef = (.slice none 0 0) := by subst hA; exact fr_arg rfl
  clear hA
  refine wp_seq ?_
  refine rg_list ?_
  refine wl_p (ex_as (v := (.pointer none)) rfl) (by rw [F0.size]; decide) fun a1 u1 (h2_1 : a1.tmps.getD 2 undef = (.pointer none)) => ?_
  have F1 := F0.pt u1
  have h0_1 := u1.v 0 h0_0 (by decide)
  clear h0_0 u1 F0
  change Code.wp _ _ _ _ _
  refine wp_seq ?_
  refine wp_seq ?_
  refine rg_list ?_
  refine wl_p (ex_mv (v := (.slice none 0 0)) h0_1) (by rw [F1.size]; decide) fun a2 u2 (h3_2 : a2.tmps.getD 3 undef = (.slice none 0 0)) => ?_
  have F2 := F1.pt u2
  have h0_2 := u2.v 0 h0_1 (by decide)
  have h2_2 := u2.v 2 h2_1 (by decide)
  clear h0_1 h2_1 u2 F1
  refine wl_p (ex_bi (w' := w0) (args := #[(.slice none 0 0)]) (v := (.int .i64 0)) (arg1 h3_2) (by kernel_rfl)) (by rw [F2.size]; decide) fun a3 u3 (h4_3 : a3.tmps.getD 4 undef = (.int .i64 0)) => ?_
  have F3 := F2.pt u3
  have h0_3 := u3.v 0 h0_2 (by decide)
  have h2_3 := u3.v 2 h2_2 (by decide)
  clear h0_2 h2_2 h3_2 u3 F2
  refine wl_p (ex_bin (vx := (.int .i64 0)) (vy := (.int .i64 0)) (v := (.bool true)) h4_3 rfl (by kernel_rfl)) (by rw [F3.size]; decide) fun a4 u4 (h5_4 : a4.tmps.getD 5 undef = (.bool true)) => ?_
  have F4 := F3.pt u4
  have h0_4 := u4.v 0 h0_3 (by decide)
  have h2_4 := u4.v 2 h2_3 (by decide)
  clear h0_3 h2_3 h4_3 u4 F3
  change Code.wp _ _ _ _ _
  refine wp_cond_true h5_4 ?_
  refine wp_seq ?_
  refine rg_list ?_
  refine wl_p (ex_as (v := (.pointer none)) rfl) (by rw [F4.size]; decide) fun a5 u5 (h2_5 : a5.tmps.getD 2 undef = (.pointer none)) => ?_
  have F5 := F4.pt u5
  have h0_5 := u5.v 0 h0_4 (by decide)
  clear h0_4 h2_4 h5_4 u5 F4
  change Code.wp _ _ _ _ _
  refine wp_ret ?_
  try simp only [Exit.then, Exit.inBlock]
  exact bodyPost_ret (v := (.pointer none)) ((results_tmp rfl _ _ _).trans (by rw [h2_5])) F5.defers ⟨none, rfl, .nil, grown_refl _ _⟩
theorem keyTo_yes {gk : Nat} {k : KeyD} {w0 : World} (hk : Blk w0 gk 99 (keyC k)) (hok : k.Ok) : Calls Tryz.prog 17 #[.slice (some ⟨gk, 0, none⟩) 1 1] w0 fun e w' => ∃ kp, e = .returned (pto kp) ∧ KeyP w' w0.heap.size kp (some k) ∧ w0.grownBy w' none := by
  refine calls_of_wp Tryz.func17 rfl ?_
  generalize hA : Act.mk _ _ = a0
  have F0 : Fz 28 a0 := by subst hA; exact ⟨by simp [Tryz.ntmps17], rfl⟩
  have h0_0 : a0.tmps.getD 0 undef = (.slice (some ⟨gk, 0, none⟩) 1 1) := by subst hA; exact fr_arg rfl
  clear hA
  have Kp0 := Kp.refl [] w0
  refine wp_seq ?_
  refine rg_list ?_
  refine wl_p (ex_as (v := (.pointer none)) rfl) (by rw [F0.size]; decide) fun a1 u1 (h2_1 : a1.tmps.getD 2 undef = (.pointer none)) => ?_
  have F1 := F0.pt u1
  have h0_1 := u1.v 0 h0_0 (by decide)
  clear h0_0 u1 F0
  change Code.wp _ _ _ _ _
  refine wp_seq ?_
  refine wp_seq ?_
  refine rg_list ?_
  refine wl_p (ex_mv (v := (.slice (some ⟨gk, 0, none⟩) 1 1)) h0_1) (by rw [F1.size]; decide) fun a2 u2 (h3_2 : a2.tmps.getD 3 undef = (.slice (some ⟨gk, 0, none⟩) 1 1)) => ?_
  have F2 := F1.pt u2
  have h0_2 := u2.v 0 h0_1 (by decide)
  have h2_2 := u2.v 2 h2_1 (by decide)
  clear h0_1 h2_1 u2 F1
  refine wl_p (ex_bi (w' := w0) (args := #[(.slice (some ⟨gk, 0, none⟩) 1 1)]) (v := (.int .i64 1)) (arg1 h3_2) (by kernel_rfl)) (by rw [F2.size]; decide) fun a3 u3 (h4_3 : a3.tmps.getD 4 undef = (.int .i64 1)) => ?_
  have F3 := F2.pt u3
  have h0_3 := u3.v 0 h0_2 (by decide)
  have h2_3 := u3.v 2 h2_2 (by decide)
  clear h0_2 h2_2 h3_2 u3 F2
  refine wl_p (ex_bin (vx := (.int .i64 1)) (vy := (.int .i64 0)) (v := (.bool false)) h4_3 rfl (by kernel_rfl)) (by rw [F3.size]; decide) fun a4 u4 (h5_4 : a4.tmps.getD 5 undef = (.bool false)) => ?_
  have F4 := F3.pt u4
  have h0_4 := u4.v 0 h0_3 (by decide)
  have h2_4 := u4.v 2 h2_3 (by decide)
  clear h0_3 h2_3 h4_3 u4 F3
  change Code.wp _ _ _ _ _
  refine wp_cond_false h5_4 ?_
  refine wp_skip ?_
  change Code.wp _ _ _ _ _
  refine wp_seq ?_
  obtain ⟨w1, hw1⟩ : ∃ w, w = w0.drew := ⟨_, rfl⟩
  have G1 : w0.grownBy w1 none := hw1 ▸ grown_drew _
  have Bk_1 := hk.gn G1
  have Kp1 := Kp0.new G1
  refine rg_stillt 20 hw1 hmix (by kernel_rfl) ?_
  clear hk Kp0 hw1 G1
  refine st_p (ex_mv (v := (.slice (some ⟨gk, 0, none⟩) 1 1)) h0_4) (by rw [F4.size]; decide) fun a5 u5 (h6_5 : a5.tmps.getD 6 undef = (.slice (some ⟨gk, 0, none⟩) 1 1)) => ?_
  have F5 := F4.pt u5
  have h0_5 := u5.v 0 h0_4 (by decide)
  have h2_5 := u5.v 2 h2_4 (by decide)
  clear h0_4 h2_4 h5_4 u5 F4
  refine st_p (ex_ixg (vx := (.slice (some ⟨gk, 0, none⟩) 1 1)) (vy := (.int .i64 0)) (v := (.pointer (some ⟨gk, 0, none⟩))) h6_5 rfl (by kernel_rfl)) (by rw [F5.size]; decide) fun a6 u6 (h7_6 : a6.tmps.getD 7 undef = (.pointer (some ⟨gk, 0, none⟩))) => ?_
  have F6 := F5.pt u6
  have h0_6 := u6.v 0 h0_5 (by decide)
  have h2_6 := u6.v 2 h2_5 (by decide)
  clear h0_5 h2_5 h6_5 u6 F5
  refine st_p (ex_fa (T := 99) (f := 0) (k := 0) (b := gk) (fun _ _ => by kernel_rfl) h7_6) (by rw [F6.size]; decide) fun a7 u7 (h8_7 : a7.tmps.getD 8 undef = (.pointer (some ⟨gk, 0, none⟩))) => ?_
  have F7 := F6.pt u7
  have h0_7 := u7.v 0 h0_6 (by decide)
  have h2_7 := u7.v 2 h2_6 (by decide)
  clear h0_6 h2_6 h7_6 u7 F6
  refine st_p (ex_ld (v := (.string k.me)) (ad := ⟨gk, 0, none⟩) (fun _ => by kernel_rfl) h8_7 (Bk_1.cell 0)) (by rw [F7.size]; decide) fun a8 u8 (h9_8 : a8.tmps.getD 9 undef = (.string k.me)) => ?_
  have F8 := F7.pt u8
  have h0_8 := u8.v 0 h0_7 (by decide)
  have h2_8 := u8.v 2 h2_7 (by decide)
  clear h0_7 h2_7 h8_7 u8 F7
  refine st_p (ex_mv (v := (.slice (some ⟨gk, 0, none⟩) 1 1)) h0_8) (by rw [F8.size]; decide) fun a9 u9 (h10_9 : a9.tmps.getD 10 undef = (.slice (some ⟨gk, 0, none⟩) 1 1)) => ?_
  have F9 := F8.pt u9
  have h0_9 := u9.v 0 h0_8 (by decide)
  have h2_9 := u9.v 2 h2_8 (by decide)
  have h9_9 := u9.v 9 h9_8 (by decide)
  clear h0_8 h2_8 h9_8 u9 F8
  refine st_p (ex_ixg (vx := (.slice (some ⟨gk, 0, none⟩) 1 1)) (vy := (.int .i64 0)) (v := (.pointer (some ⟨gk, 0, none⟩))) h10_9 rfl (by kernel_rfl)) (by rw [F9.size]; decide) fun a10 u10 (h11_10 : a10.tmps.getD 11 undef = (.pointer (some ⟨gk, 0, none⟩))) => ?_
  have F10 := F9.pt u10
  have h0_10 := u10.v 0 h0_9 (by decide)
  have h2_10 := u10.v 2 h2_9 (by decide)
  have h9_10 := u10.v 9 h9_9 (by decide)
  clear h0_9 h2_9 h9_9 h10_9 u10 F9
  refine st_p (ex_fa (T := 99) (f := 1) (k := 1) (b := gk) (fun _ _ => by kernel_rfl) h11_10) (by rw [F10.size]; decide) fun a11 u11 (h12_11 : a11.tmps.getD 12 undef = (.pointer (some ⟨gk, 1, none⟩))) => ?_
  have F11 := F10.pt u11
  have h0_11 := u11.v 0 h0_10 (by decide)
  have h2_11 := u11.v 2 h2_10 (by decide)
  have h9_11 := u11.v 9 h9_10 (by decide)
  clear h0_10 h2_10 h9_10 h11_10 u11 F10
  refine st_p (ex_ld (v := (.string k.uri)) (ad := ⟨gk, 1, none⟩) (fun _ => by kernel_rfl) h12_11 (Bk_1.cell 1)) (by rw [F11.size]; decide) fun a12 u12 (h13_12 : a12.tmps.getD 13 undef = (.string k.uri)) => ?_
  have F12 := F11.pt u12
  have h0_12 := u12.v 0 h0_11 (by decide)
  have h2_12 := u12.v 2 h2_11 (by decide)
  have h9_12 := u12.v 9 h9_11 (by decide)
  clear h0_11 h2_11 h9_11 h12_11 u12 F11
  refine st_p (ex_mv (v := (.slice (some ⟨gk, 0, none⟩) 1 1)) h0_12) (by rw [F12.size]; decide) fun a13 u13 (h14_13 : a13.tmps.getD 14 undef = (.slice (some ⟨gk, 0, none⟩) 1 1)) => ?_
  have F13 := F12.pt u13
  have h0_13 := u13.v 0 h0_12 (by decide)
  have h2_13 := u13.v 2 h2_12 (by decide)
  have h9_13 := u13.v 9 h9_12 (by decide)
  have h13_13 := u13.v 13 h13_12 (by decide)
  clear h0_12 h2_12 h9_12 h13_12 u13 F12
  refine st_p (ex_ixg (vx := (.slice (some ⟨gk, 0, none⟩) 1 1)) (vy := (.int .i64 0)) (v := (.pointer (some ⟨gk, 0, none⟩))) h14_13 rfl (by kernel_rfl)) (by rw [F13.size]; decide) fun a14 u14 (h15_14 : a14.tmps.getD 15 undef = (.pointer (some ⟨gk, 0, none⟩))) => ?_
  have F14 := F13.pt u14
  have h0_14 := u14.v 0 h0_13 (by decide)
  have h2_14 := u14.v 2 h2_13 (by decide)
  have h9_14 := u14.v 9 h9_13 (by decide)
  have h13_14 := u14.v 13 h13_13 (by decide)
  clear h0_13 h2_13 h9_13 h13_13 h14_13 u14 F13
  refine st_p (ex_fa (T := 99) (f := 2) (k := 2) (b := gk) (fun _ _ => by kernel_rfl) h15_14) (by rw [F14.size]; decide) fun a15 u15 (h16_15 : a15.tmps.getD 16 undef = (.pointer (some ⟨gk, 2, none⟩))) => ?_
  have F15 := F14.pt u15
  have h0_15 := u15.v 0 h0_14 (by decide)
  have h2_15 := u15.v 2 h2_14 (by decide)
  have h9_15 := u15.v 9 h9_14 (by decide)
  have h13_15 := u15.v 13 h13_14 (by decide)
  clear h0_14 h2_14 h9_14 h13_14 h15_14 u15 F14
  refine st_p (ex_ld (v := (.string k.iv)) (ad := ⟨gk, 2, none⟩) (fun _ => by kernel_rfl) h16_15 (Bk_1.cell 2)) (by rw [F15.size]; decide) fun a16 u16 (h17_16 : a16.tmps.getD 17 undef = (.string k.iv)) => ?_
  have F16 := F15.pt u16
  have h0_16 := u16.v 0 h0_15 (by decide)
  have h2_16 := u16.v 2 h2_15 (by decide)
  have h9_16 := u16.v 9 h9_15 (by decide)
  have h13_16 := u16.v 13 h13_15 (by decide)
  clear h0_15 h2_15 h9_15 h13_15 h16_15 u16 F15
  refine st_p (ex_mv (v := (.slice (some ⟨gk, 0, none⟩) 1 1)) h0_16) (by rw [F16.size]; decide) fun a17 u17 (h18_17 : a17.tmps.getD 18 undef = (.slice (some ⟨gk, 0, none⟩) 1 1)) => ?_
  have F17 := F16.pt u17
  have h0_17 := u17.v 0 h0_16 (by decide)
  have h2_17 := u17.v 2 h2_16 (by decide)
  have h9_17 := u17.v 9 h9_16 (by decide)
  have h13_17 := u17.v 13 h13_16 (by decide)
  have h17_17 := u17.v 17 h17_16 (by decide)
  clear h0_16 h2_16 h9_16 h13_16 h17_16 u17 F16
  refine st_p (ex_ixg (vx := (.slice (some ⟨gk, 0, none⟩) 1 1)) (vy := (.int .i64 0)) (v := (.pointer (some ⟨gk, 0, none⟩))) h18_17 rfl (by kernel_rfl)) (by rw [F17.size]; decide) fun a18 u18 (h19_18 : a18.tmps.getD 19 undef = (.pointer (some ⟨gk, 0, none⟩))) => ?_
  have F18 := F17.pt u18
  have h0_18 := u18.v 0 h0_17 (by decide)
  have h2_18 := u18.v 2 h2_17 (by decide)
  have h9_18 := u18.v 9 h9_17 (by decide)
  have h13_18 := u18.v 13 h13_17 (by decide)
  have h17_18 := u18.v 17 h17_17 (by decide)
  clear h0_17 h2_17 h9_17 h13_17 h17_17 h18_17 u18 F17
  refine st_p (ex_fa (T := 99) (f := 3) (k := 3) (b := gk) (fun _ _ => by kernel_rfl) h19_18) (by rw [F18.size]; decide) fun a19 u19 (h20_19 : a19.tmps.getD 20 undef = (.pointer (some ⟨gk, 3, none⟩))) => ?_
  have F19 := F18.pt u19
  have h0_19 := u19.v 0 h0_18 (by decide)
  have h2_19 := u19.v 2 h2_18 (by decide)
  have h9_19 := u19.v 9 h9_18 (by decide)
  have h13_19 := u19.v 13 h13_18 (by decide)
  have h17_19 := u19.v 17 h17_18 (by decide)
  clear h0_18 h2_18 h9_18 h13_18 h17_18 h19_18 u19 F18
  refine st_p (ex_ld (v := (.string k.fo)) (ad := ⟨gk, 3, none⟩) (fun _ => by kernel_rfl) h20_19 (Bk_1.cell 3)) (by rw [F19.size]; decide) fun a20 u20 (h21_20 : a20.tmps.getD 21 undef = (.string k.fo)) => ?_
  have F20 := F19.pt u20
  have h0_20 := u20.v 0 h0_19 (by decide)
  have h2_20 := u20.v 2 h2_19 (by decide)
  have h9_20 := u20.v 9 h9_19 (by decide)
  have h13_20 := u20.v 13 h13_19 (by decide)
  have h17_20 := u20.v 17 h17_19 (by decide)
  clear h0_19 h2_19 h9_19 h13_19 h17_19 h20_19 u20 F19
  refine st_p (ex_mv (v := (.slice (some ⟨gk, 0, none⟩) 1 1)) h0_20) (by rw [F20.size]; decide) fun a21 u21 (h22_21 : a21.tmps.getD 22 undef = (.slice (some ⟨gk, 0, none⟩) 1 1)) => ?_
  have F21 := F20.pt u21
  have h2_21 := u21.v 2 h2_20 (by decide)
  have h9_21 := u21.v 9 h9_20 (by decide)
  have h13_21 := u21.v 13 h13_20 (by decide)
  have h17_21 := u21.v 17 h17_20 (by decide)
  have h21_21 := u21.v 21 h21_20 (by decide)
  clear h0_20 h2_20 h9_20 h13_20 h17_20 h21_20 u21 F20
  refine st_p (ex_ixg (vx := (.slice (some ⟨gk, 0, none⟩) 1 1)) (vy := (.int .i64 0)) (v := (.pointer (some ⟨gk, 0, none⟩))) h22_21 rfl (by kernel_rfl)) (by rw [F21.size]; decide) fun a22 u22 (h23_22 : a22.tmps.getD 23 undef = (.pointer (some ⟨gk, 0, none⟩))) => ?_
  have F22 := F21.pt u22
  have h2_22 := u22.v 2 h2_21 (by decide)
  have h9_22 := u22.v 9 h9_21 (by decide)
  have h13_22 := u22.v 13 h13_21 (by decide)
  have h17_22 := u22.v 17 h17_21 (by decide)
  have h21_22 := u22.v 21 h21_21 (by decide)
  clear h2_21 h9_21 h13_21 h17_21 h21_21 h22_21 u22 F21
  refine st_p (ex_fa (T := 99) (f := 4) (k := 4) (b := gk) (fun _ _ => by kernel_rfl) h23_22) (by rw [F22.size]; decide) fun a23 u23 (h24_23 : a23.tmps.getD 24 undef = (.pointer (some ⟨gk, 4, none⟩))) => ?_
  have F23 := F22.pt u23
  have h2_23 := u23.v 2 h2_22 (by decide)
  have h9_23 := u23.v 9 h9_22 (by decide)
  have h13_23 := u23.v 13 h13_22 (by decide)
  have h17_23 := u23.v 17 h17_22 (by decide)
  have h21_23 := u23.v 21 h21_22 (by decide)
  clear h2_22 h9_22 h13_22 h17_22 h21_22 h23_22 u23 F22
  refine st_p (ex_ld (v := (.string k.ve)) (ad := ⟨gk, 4, none⟩) (fun _ => by kernel_rfl) h24_23 (Bk_1.cell 4)) (by rw [F23.size]; decide) fun a24 u24 (h25_24 : a24.tmps.getD 25 undef = (.string k.ve)) => ?_
  have F24 := F23.pt u24
  have h2_24 := u24.v 2 h2_23 (by decide)
  have h9_24 := u24.v 9 h9_23 (by decide)
  have h13_24 := u24.v 13 h13_23 (by decide)
  have h17_24 := u24.v 17 h17_23 (by decide)
  have h21_24 := u24.v 21 h21_23 (by decide)
  clear h2_23 h9_23 h13_23 h17_23 h21_23 h24_23 u24 F23
  refine wl_p (ex_bd (w' := w1) (vs :=  #[(0, (.string k.me)), (1, (.string k.uri)), (2, (.string k.iv)), (3, (.string k.fo)), (4, (.string k.ve))]) (v := (.agg #[(.string k.me), (.string k.uri), (.string k.iv), (.string k.fo), (.string k.ve)])) (by have e0 : a24.eval (.tmp 9) = (.string k.me) := h9_24; have e1 : a24.eval (.tmp 13) = (.string k.uri) := h13_24; have e2 : a24.eval (.tmp 17) = (.string k.iv) := h17_24; have e3 : a24.eval (.tmp 21) = (.string k.fo) := h21_24; have e4 : a24.eval (.tmp 25) = (.string k.ve) := h25_24; simp only [List.map_toArray, List.map_cons, List.map_nil, e0, e1, e2, e3, e4]) (by kernel_rfl)) (by rw [F24.size]; decide) fun a25 u25 (h26_25 : a25.tmps.getD 26 undef = (.agg #[(.string k.me), (.string k.uri), (.string k.iv), (.string k.fo), (.string k.ve)])) => ?_
  have F25 := F24.pt u25
  have h2_25 := u25.v 2 h2_24 (by decide)
  clear h2_24 h9_24 h13_24 h17_24 h21_24 h25_24 u25 F24
  obtain ⟨gb27, hgb27⟩ : ∃ g, w1.heap.size = g := ⟨_, rfl⟩
  have ne_k_b27 : gk ≠ gb27 := by have := Bk_1.lt; omega
  have ge_b27 : w0.heap.size ≤ gb27 := by have := Kp1.size; omega
  obtain ⟨w2, hr2, Bb27_2, G2, hs2⟩ := al_run (op := Instr.box 101 (.agg #[(.string k.me), (.string k.uri), (.string k.iv), (.string k.fo), (.string k.ve)])) (T := 101) (cs := #[(.string k.me), (.string k.uri), (.string k.iv), (.string k.fo), (.string k.ve)]) hgb27 (fun _ => by kernel_rfl)
  have Bk_2 := Bk_1.gn G2
  have Kp2 := Kp1.new G2
  refine wl_p (ex_bx h26_25 hr2) (by rw [F25.size]; decide) fun a26 u26 (h27_26 : a26.tmps.getD 27 undef = (.pointer (some ⟨gb27, 0, none⟩))) => ?_
  have F26 := F25.pt u26
  have h2_26 := u26.v 2 h2_25 (by decide)
  clear h2_25 h26_25 u26 F25
  clear Bk_1 Kp1 hr2 G2 hs2 hgb27
  refine wl_p (ex_as (v := (.pointer (some ⟨gb27, 0, none⟩))) h27_26) (by rw [F26.size]; decide) fun a27 u27 (h2_27 : a27.tmps.getD 2 undef = (.pointer (some ⟨gb27, 0, none⟩))) => ?_
  have F27 := F26.pt u27
  clear h2_26 h27_26 u27 F26
  change Code.wp _ _ _ _ _
  refine wp_ret ?_
  try simp only [Exit.then, Exit.inBlock]
  exact bodyPost_ret (v := (.pointer (some ⟨gb27, 0, none⟩))) ((results_tmp rfl _ _ _).trans (by rw [h2_27])) F27.defers ⟨some gb27, rfl, .mk Bb27_2 ge_b27 hok, Kp2.grown⟩
theorem keyTo_any {v : Value} {k : Option KeyD} {w0 : World} (h : KeySl w0 v k) : Calls Tryz.prog 17 #[v] w0 fun e w' => ∃ kp, e = .returned (pto kp) ∧ KeyP w' w0.heap.size kp k ∧ w0.grownBy w' none := by
  cases h with
  | nil => exact keyTo_no
  | mk h ok => exact keyTo_yes h ok
theorem mapTo_no {w0 : World} : Calls Tryz.prog 18 #[.slice none 0 0] w0 fun e w' => ∃ kp, e = .returned (pto kp) ∧ MapP w' w0.heap.size kp none ∧ w0.grownBy w' none := by
  refine calls_of_wp Tryz.func18 rfl ?_
  generalize hA : Act.mk _ _ = a0
  have F0 : Fz 20 a0 := by subst hA; exact ⟨by simp [Tryz.ntmps18], rfl⟩
  have h0_0 : a0.tmps.getD 0 undef = (.slice none 0 0) := by subst hA; exact fr_arg rfl
  clear hA
  refine wp_seq ?_
  refine rg_list ?_
  refine wl_p (ex_as (v := (.pointer none)) rfl) (by rw [F0.size]; decide) fun a1 u1 (h2_1 : a1.tmps.getD 2 undef = (.pointer none)) => ?_
  have F1 := F0.pt u1
  have h0_1 := u1.v 0 h0_0 (by decide)
  clear h0_0 u1 F0
  change Code.wp _ _ _ _ _
  refine wp_seq ?_
  refine wp_seq ?_
  refine rg_list ?_
  refine wl_p (ex_mv (v := (.slice none 0 0)) h0_1) (by rw [F1.size]; decide) fun a2 u2 (h3_2 : a2.tmps.getD 3 undef = (.slice none 0 0)) => ?_
  have F2 := F1.pt u2
  have h0_2 := u2.v 0 h0_1 (by decide)
  have h2_2 := u2.v 2 h2_1 (by decide)
  clear h0_1 h2_1 u2 F1
  refine wl_p (ex_bi (w' := w0) (args := #[(.slice none 0 0)]) (v := (.int .i64 0)) (arg1 h3_2) (by kernel_rfl)) (by rw [F2.size]; decide) fun a3 u3 (h4_3 : a3.tmps.getD 4 undef = (.int .i64 0)) => ?_
  have F3 := F2.pt u3
  have h0_3 := u3.v 0 h0_2 (by decide)
  have h2_3 := u3.v 2 h2_2 (by decide)
  clear h0_2 h2_2 h3_2 u3 F2
  refine wl_p (ex_bin (vx := (.int .i64 0)) (vy := (.int .i64 0)) (v := (.bool true)) h4_3 rfl (by kernel_rfl)) (by rw [F3.size]; decide) fun a4 u4 (h5_4 : a4.tmps.getD 5 undef = (.bool true)) => ?_
  have F4 := F3.pt u4
  have h0_4 := u4.v 0 h0_3 (by decide)
  have h2_4 := u4.v 2 h2_3 (by decide)
  clear h0_3 h2_3 h4_3 u4 F3
  change Code.wp _ _ _ _ _
  refine wp_cond_true h5_4 ?_
  refine wp_seq ?_
  refine rg_list ?_
  refine wl_p (ex_as (v := (.pointer none)) rfl) (by rw [F4.size]; decide) fun a5 u5 (h2_5 : a5.tmps.getD 2 undef = (.pointer none)) => ?_
  have F5 := F4.pt u5
  have h0_5 := u5.v 0 h0_4 (by decide)
  clear h0_4 h2_4 h5_4 u5 F4
  change Code.wp _ _ _ _ _
  refine wp_ret ?_
  try simp only [Exit.then, Exit.inBlock]
  exact bodyPost_ret (v := (.pointer none)) ((results_tmp rfl _ _ _).trans (by rw [h2_5])) F5.defers ⟨none, rfl, .nil, grown_refl _ _⟩
theorem mapTo_yes {gk : Nat} {k : MapD} {w0 : World} (hk : Blk w0 gk 102 (mapC k)) (hok : k.Ok) : Calls Tryz.prog 18 #[.slice (some ⟨gk, 0, none⟩) 1 1] w0 fun e w' => ∃ kp, e = .returned (pto kp) ∧ MapP w' w0.heap.size kp (some k) ∧ w0.grownBy w' none := by
  refine calls_of_wp Tryz.func18 rfl ?_
  generalize hA : Act.mk _ _ = a0
  have F0 : Fz 20 a0 := by subst hA; exact ⟨by simp [Tryz.ntmps18], rfl⟩
  have h0_0 : a0.tmps.getD 0 undef = (.slice (some ⟨gk, 0, none⟩) 1 1) := by subst hA; exact fr_arg rfl
  clear hA
  have Kp0 := Kp.refl [] w0
  refine wp_seq ?_
  refine rg_list ?_
  refine wl_p (ex_as (v := (.pointer none)) rfl) (by rw [F0.size]; decide) fun a1 u1 (h2_1 : a1.tmps.getD 2 undef = (.pointer none)) => ?_
  have F1 := F0.pt u1
  have h0_1 := u1.v 0 h0_0 (by decide)
  clear h0_0 u1 F0
  change Code.wp _ _ _ _ _
  refine wp_seq ?_
  refine wp_seq ?_
  refine rg_list ?_
  refine wl_p (ex_mv (v := (.slice (some ⟨gk, 0, none⟩) 1 1)) h0_1) (by rw [F1.size]; decide) fun a2 u2 (h3_2 : a2.tmps.getD 3 undef = (.slice (some ⟨gk, 0, none⟩) 1 1)) => ?_
  have F2 := F1.pt u2
  have h0_2 := u2.v 0 h0_1 (by decide)
  have h2_2 := u2.v 2 h2_1 (by decide)
  clear h0_1 h2_1 u2 F1
  refine wl_p (ex_bi (w' := w0) (args := #[(.slice (some ⟨gk, 0, none⟩) 1 1)]) (v := (.int .i64 1)) (arg1 h3_2) (by kernel_rfl)) (by rw [F2.size]; decide) fun a3 u3 (h4_3 : a3.tmps.getD 4 undef = (.int .i64 1)) => ?_
  have F3 := F2.pt u3
  have h0_3 := u3.v 0 h0_2 (by decide)
  have h2_3 := u3.v 2 h2_2 (by decide)
  clear h0_2 h2_2 h3_2 u3 F2
  refine wl_p (ex_bin (vx := (.int .i64 1)) (vy := (.int .i64 0)) (v := (.bool false)) h4_3 rfl (by kernel_rfl)) (by rw [F3.size]; decide) fun a4 u4 (h5_4 : a4.tmps.getD 5 undef = (.bool false)) => ?_
  have F4 := F3.pt u4
  have h0_4 := u4.v 0 h0_3 (by decide)
  have h2_4 := u4.v 2 h2_3 (by decide)
  clear h0_3 h2_3 h4_3 u4 F3
  change Code.wp _ _ _ _ _
  refine wp_cond_false h5_4 ?_
  refine wp_skip ?_
  change Code.wp _ _ _ _ _
  refine wp_seq ?_
  obtain ⟨w1, hw1⟩ : ∃ w, w = w0.drew := ⟨_, rfl⟩
  have G1 : w0.grownBy w1 none := hw1 ▸ grown_drew _
  have Bk_1 := hk.gn G1
  have Kp1 := Kp0.new G1
  refine rg_stillt 12 hw1 hmix (by kernel_rfl) ?_
  clear hk Kp0 hw1 G1
  refine st_p (ex_mv (v := (.slice (some ⟨gk, 0, none⟩) 1 1)) h0_4) (by rw [F4.size]; decide) fun a5 u5 (h6_5 : a5.tmps.getD 6 undef = (.slice (some ⟨gk, 0, none⟩) 1 1)) => ?_
  have F5 := F4.pt u5
  have h0_5 := u5.v 0 h0_4 (by decide)
  have h2_5 := u5.v 2 h2_4 (by decide)
  clear h0_4 h2_4 h5_4 u5 F4
  refine st_p (ex_ixg (vx := (.slice (some ⟨gk, 0, none⟩) 1 1)) (vy := (.int .i64 0)) (v := (.pointer (some ⟨gk, 0, none⟩))) h6_5 rfl (by kernel_rfl)) (by rw [F5.size]; decide) fun a6 u6 (h7_6 : a6.tmps.getD 7 undef = (.pointer (some ⟨gk, 0, none⟩))) => ?_
  have F6 := F5.pt u6
  have h0_6 := u6.v 0 h0_5 (by decide)
  have h2_6 := u6.v 2 h2_5 (by decide)
  clear h0_5 h2_5 h6_5 u6 F5
  refine st_p (ex_fa (T := 102) (f := 0) (k := 0) (b := gk) (fun _ _ => by kernel_rfl) h7_6) (by rw [F6.size]; decide) fun a7 u7 (h8_7 : a7.tmps.getD 8 undef = (.pointer (some ⟨gk, 0, none⟩))) => ?_
  have F7 := F6.pt u7
  have h0_7 := u7.v 0 h0_6 (by decide)
  have h2_7 := u7.v 2 h2_6 (by decide)
  clear h0_6 h2_6 h7_6 u7 F6
  refine st_p (ex_ld (v := (.string k.uri)) (ad := ⟨gk, 0, none⟩) (fun _ => by kernel_rfl) h8_7 (Bk_1.cell 0)) (by rw [F7.size]; decide) fun a8 u8 (h9_8 : a8.tmps.getD 9 undef = (.string k.uri)) => ?_
  have F8 := F7.pt u8
  have h0_8 := u8.v 0 h0_7 (by decide)
  have h2_8 := u8.v 2 h2_7 (by decide)
  clear h0_7 h2_7 h8_7 u8 F7
  refine st_p (ex_mv (v := (.slice (some ⟨gk, 0, none⟩) 1 1)) h0_8) (by rw [F8.size]; decide) fun a9 u9 (h10_9 : a9.tmps.getD 10 undef = (.slice (some ⟨gk, 0, none⟩) 1 1)) => ?_
  have F9 := F8.pt u9
  have h0_9 := u9.v 0 h0_8 (by decide)
  have h2_9 := u9.v 2 h2_8 (by decide)
  have h9_9 := u9.v 9 h9_8 (by decide)
  clear h0_8 h2_8 h9_8 u9 F8
  refine st_p (ex_ixg (vx := (.slice (some ⟨gk, 0, none⟩) 1 1)) (vy := (.int .i64 0)) (v := (.pointer (some ⟨gk, 0, none⟩))) h10_9 rfl (by kernel_rfl)) (by rw [F9.size]; decide) fun a10 u10 (h11_10 : a10.tmps.getD 11 undef = (.pointer (some ⟨gk, 0, none⟩))) => ?_
  have F10 := F9.pt u10
  have h0_10 := u10.v 0 h0_9 (by decide)
  have h2_10 := u10.v 2 h2_9 (by decide)
  have h9_10 := u10.v 9 h9_9 (by decide)
  clear h0_9 h2_9 h9_9 h10_9 u10 F9
  refine st_p (ex_fa (T := 102) (f := 1) (k := 1) (b := gk) (fun _ _ => by kernel_rfl) h11_10) (by rw [F10.size]; decide) fun a11 u11 (h12_11 : a11.tmps.getD 12 undef = (.pointer (some ⟨gk, 1, none⟩))) => ?_
  have F11 := F10.pt u11
  have h0_11 := u11.v 0 h0_10 (by decide)
  have h2_11 := u11.v 2 h2_10 (by decide)
  have h9_11 := u11.v 9 h9_10 (by decide)
  clear h0_10 h2_10 h9_10 h11_10 u11 F10
  refine st_p (ex_ld (v := (.int .i64 k.li)) (ad := ⟨gk, 1, none⟩) (fun _ => by kernel_rfl) h12_11 (Bk_1.cell 1)) (by rw [F11.size]; decide) fun a12 u12 (h13_12 : a12.tmps.getD 13 undef = (.int .i64 k.li)) => ?_
  have F12 := F11.pt u12
  have h0_12 := u12.v 0 h0_11 (by decide)
  have h2_12 := u12.v 2 h2_11 (by decide)
  have h9_12 := u12.v 9 h9_11 (by decide)
  clear h0_11 h2_11 h9_11 h12_11 u12 F11
  refine st_p (ex_mv (v := (.slice (some ⟨gk, 0, none⟩) 1 1)) h0_12) (by rw [F12.size]; decide) fun a13 u13 (h14_13 : a13.tmps.getD 14 undef = (.slice (some ⟨gk, 0, none⟩) 1 1)) => ?_
  have F13 := F12.pt u13
  have h2_13 := u13.v 2 h2_12 (by decide)
  have h9_13 := u13.v 9 h9_12 (by decide)
  have h13_13 := u13.v 13 h13_12 (by decide)
  clear h0_12 h2_12 h9_12 h13_12 u13 F12
  refine st_p (ex_ixg (vx := (.slice (some ⟨gk, 0, none⟩) 1 1)) (vy := (.int .i64 0)) (v := (.pointer (some ⟨gk, 0, none⟩))) h14_13 rfl (by kernel_rfl)) (by rw [F13.size]; decide) fun a14 u14 (h15_14 : a14.tmps.getD 15 undef = (.pointer (some ⟨gk, 0, none⟩))) => ?_
  have F14 := F13.pt u14
  have h2_14 := u14.v 2 h2_13 (by decide)
  have h9_14 := u14.v 9 h9_13 (by decide)
  have h13_14 := u14.v 13 h13_13 (by decide)
  clear h2_13 h9_13 h13_13 h14_13 u14 F13
  refine st_p (ex_fa (T := 102) (f := 2) (k := 2) (b := gk) (fun _ _ => by kernel_rfl) h15_14) (by rw [F14.size]; decide) fun a15 u15 (h16_15 : a15.tmps.getD 16 undef = (.pointer (some ⟨gk, 2, none⟩))) => ?_
  have F15 := F14.pt u15
  have h2_15 := u15.v 2 h2_14 (by decide)
  have h9_15 := u15.v 9 h9_14 (by decide)
  have h13_15 := u15.v 13 h13_14 (by decide)
  clear h2_14 h9_14 h13_14 h15_14 u15 F14
  refine st_p (ex_ld (v := (.int .i64 k.off)) (ad := ⟨gk, 2, none⟩) (fun _ => by kernel_rfl) h16_15 (Bk_1.cell 2)) (by rw [F15.size]; decide) fun a16 u16 (h17_16 : a16.tmps.getD 17 undef = (.int .i64 k.off)) => ?_
  have F16 := F15.pt u16
  have h2_16 := u16.v 2 h2_15 (by decide)
  have h9_16 := u16.v 9 h9_15 (by decide)
  have h13_16 := u16.v 13 h13_15 (by decide)
  clear h2_15 h9_15 h13_15 h16_15 u16 F15
  refine wl_p (ex_bd (w' := w1) (vs :=  #[(0, (.string k.uri)), (1, (.int .i64 k.li)), (2, (.int .i64 k.off))]) (v := (.agg #[(.string k.uri), (.int .i64 k.li), (.int .i64 k.off)])) (by have e0 : a16.eval (.tmp 9) = (.string k.uri) := h9_16; have e1 : a16.eval (.tmp 13) = (.int .i64 k.li) := h13_16; have e2 : a16.eval (.tmp 17) = (.int .i64 k.off) := h17_16; simp only [List.map_toArray, List.map_cons, List.map_nil, e0, e1, e2]) (by kernel_rfl)) (by rw [F16.size]; decide) fun a17 u17 (h18_17 : a17.tmps.getD 18 undef = (.agg #[(.string k.uri), (.int .i64 k.li), (.int .i64 k.off)])) => ?_
  have F17 := F16.pt u17
  have h2_17 := u17.v 2 h2_16 (by decide)
  clear h2_16 h9_16 h13_16 h17_16 u17 F16
  obtain ⟨gb19, hgb19⟩ : ∃ g, w1.heap.size = g := ⟨_, rfl⟩
  have ne_k_b19 : gk ≠ gb19 := by have := Bk_1.lt; omega
  have ge_b19 : w0.heap.size ≤ gb19 := by have := Kp1.size; omega
  obtain ⟨w2, hr2, Bb19_2, G2, hs2⟩ := al_run (op := Instr.box 103 (.agg #[(.string k.uri), (.int .i64 k.li), (.int .i64 k.off)])) (T := 103) (cs := #[(.string k.uri), (.int .i64 k.li), (.int .i64 k.off)]) hgb19 (fun _ => by kernel_rfl)
  have Bk_2 := Bk_1.gn G2
  have Kp2 := Kp1.new G2
  refine wl_p (ex_bx h18_17 hr2) (by rw [F17.size]; decide) fun a18 u18 (h19_18 : a18.tmps.getD 19 undef = (.pointer (some ⟨gb19, 0, none⟩))) => ?_
  have F18 := F17.pt u18
  have h2_18 := u18.v 2 h2_17 (by decide)
  clear h2_17 h18_17 u18 F17
  clear Bk_1 Kp1 hr2 G2 hs2 hgb19
  refine wl_p (ex_as (v := (.pointer (some ⟨gb19, 0, none⟩))) h19_18) (by rw [F18.size]; decide) fun a19 u19 (h2_19 : a19.tmps.getD 2 undef = (.pointer (some ⟨gb19, 0, none⟩))) => ?_
  have F19 := F18.pt u19
  clear h2_18 h19_18 u19 F18
  change Code.wp _ _ _ _ _
  refine wp_ret ?_
  try simp only [Exit.then, Exit.inBlock]
  exact bodyPost_ret (v := (.pointer (some ⟨gb19, 0, none⟩))) ((results_tmp rfl _ _ _).trans (by rw [h2_19])) F19.defers ⟨some gb19, rfl, .mk Bb19_2 ge_b19 hok, Kp2.grown⟩
theorem mapTo_any {v : Value} {k : Option MapD} {w0 : World} (h : MapSl w0 v k) : Calls Tryz.prog 18 #[v] w0 fun e w' => ∃ kp, e = .returned (pto kp) ∧ MapP w' w0.heap.size kp k ∧ w0.grownBy w' none := by
  cases h with
  | nil => exact mapTo_no
  | mk h ok => exact mapTo_yes h ok
theorem cueTo_no {w0 : World} : Calls Tryz.prog 33 #[.slice none 0 0] w0 fun e w' => e = .returned (.pointer none) ∧ w0 = w' := by
  refine calls_of_wp Tryz.func33 rfl ?_
  generalize hA : Act.mk _ _ = a0
  have F0 : Fz 26 a0 := by subst hA; exact ⟨by simp [Tryz.ntmps33], rfl⟩
  have h0_0 : a0.tmps.getD 0 undef = (.slice none 0 0) := by subst hA; exact fr_arg rfl
  clear hA
  refine wp_seq ?_
  refine rg_list ?_
  refine wl_p (ex_as (v := (.pointer none)) rfl) (by rw [F0.size]; decide) fun a1 u1 (h2_1 : a1.tmps.getD 2 undef = (.pointer none)) => ?_
  have F1 := F0.pt u1
  have h0_1 := u1.v 0 h0_0 (by decide)
  clear h0_0 u1 F0
  change Code.wp _ _ _ _ _
  refine wp_seq ?_
  refine wp_seq ?_
  refine rg_list ?_
  refine wl_p (ex_mv (v := (.slice none 0 0)) h0_1) (by rw [F1.size]; decide) fun a2 u2 (h4_2 : a2.tmps.getD 4 undef = (.slice none 0 0)) => ?_
  have F2 := F1.pt u2
  have h0_2 := u2.v 0 h0_1 (by decide)
  have h2_2 := u2.v 2 h2_1 (by decide)
  clear h0_1 h2_1 u2 F1
  refine wl_p (ex_bi (w' := w0) (args := #[(.slice none 0 0)]) (v := (.int .i64 0)) (arg1 h4_2) (by kernel_rfl)) (by rw [F2.size]; decide) fun a3 u3 (h5_3 : a3.tmps.getD 5 undef = (.int .i64 0)) => ?_
  have F3 := F2.pt u3
  have h0_3 := u3.v 0 h0_2 (by decide)
  have h2_3 := u3.v 2 h2_2 (by decide)
  clear h0_2 h2_2 h4_2 u3 F2
  refine wl_p (ex_bin (vx := (.int .i64 0)) (vy := (.int .i64 0)) (v := (.bool true)) h5_3 rfl (by kernel_rfl)) (by rw [F3.size]; decide) fun a4 u4 (h6_4 : a4.tmps.getD 6 undef = (.bool true)) => ?_
  have F4 := F3.pt u4
  have h0_4 := u4.v 0 h0_3 (by decide)
  have h2_4 := u4.v 2 h2_3 (by decide)
  clear h0_3 h2_3 h5_3 u4 F3
  change Code.wp _ _ _ _ _
  refine wp_cond_true h6_4 ?_
  refine wp_seq ?_
  refine rg_list ?_
  refine wl_p (ex_as (v := (.pointer none)) rfl) (by rw [F4.size]; decide) fun a5 u5 (h2_5 : a5.tmps.getD 2 undef = (.pointer none)) => ?_
  have F5 := F4.pt u5
  have h0_5 := u5.v 0 h0_4 (by decide)
  clear h0_4 h2_4 h6_4 u5 F4
  change Code.wp _ _ _ _ _
  refine wp_ret ?_
  try simp only [Exit.then, Exit.inBlock]
  exact bodyPost_ret (v := (.pointer none)) ((results_tmp rfl _ _ _).trans (by rw [h2_5])) F5.defers ⟨rfl, rfl⟩
/-- a segment as data -/
def segD (num : Nat) (s : SegD) (kv mv : Value) : Array Value := #[(.int .u64 num), (.string s.title), (.string s.uri), (.float .f64 (fb s.e)), (.int .i64 s.li), (.int .i64 s.off), kv, mv, (.slice none 0 0), (.bool s.disc), (.string s.date)]
theorem segmentTo_any {num : Nat} {s : SegD} {kv mv : Value} {w0 : World} (hks : KeySl w0 kv s.key) (hms : MapSl w0 mv s.map) :
    Calls Tryz.prog 16 #[.agg (segD num s kv mv)] w0 fun e w' => ∃ q kp mp, e = .returned (pt q) ∧ Blk w' q 96 (segC 0 s kp mp) ∧ KeyP w' w0.heap.size kp s.key ∧ MapP w' w0.heap.size mp s.map ∧ w0.heap.size ≤ q ∧ w0.grownBy w' none := by
  refine calls_of_wp Tryz.func16 rfl ?_
  generalize hA : Act.mk _ _ = a0
  have F0 : Fz 28 a0 := by subst hA; exact ⟨by simp [Tryz.ntmps16], rfl⟩
  have h0_0 : a0.tmps.getD 0 undef = (.agg #[(.int .u64 num), (.string s.title), (.string s.uri), (.float .f64 (fb s.e)), (.int .i64 s.li), (.int .i64 s.off), kv, mv, (.slice none 0 0), (.bool s.disc), (.string s.date)]) := by subst hA; exact fr_arg rfl
  clear hA
  have Kp0 := Kp.refl [] w0
  have ks_0 := hks
  have ms_0 := hms
  refine wp_seq ?_
  refine rg_list ?_
  obtain ⟨gx, hgx⟩ : ∃ g, w0.heap.size = g := ⟨_, rfl⟩
  have ge_x : w0.heap.size ≤ gx := by have := Kp0.size; omega
  obtain ⟨w1, hr1, Bx_1, G1, hs1⟩ := al_run (op := Instr.box 30 (.agg #[(.int .u64 num), (.string s.title), (.string s.uri), (.float .f64 (fb s.e)), (.int .i64 s.li), (.int .i64 s.off), kv, mv, (.slice none 0 0), (.bool s.disc), (.string s.date)])) (T := 30) (cs := #[(.int .u64 num), (.string s.title), (.string s.uri), (.float .f64 (fb s.e)), (.int .i64 s.li), (.int .i64 s.off), kv, mv, (.slice none 0 0), (.bool s.disc), (.string s.date)]) hgx (fun _ => by kernel_rfl)
  have Kp1 := Kp0.new G1
  have ks_1 := ks_0.gn G1
  have ms_1 := ms_0.gn G1
  refine wl_p (ex_bx h0_0 hr1) (by rw [F0.size]; decide) fun a1 u1 (h1_1 : a1.tmps.getD 1 undef = (.pointer (some ⟨gx, 0, none⟩))) => ?_
  have F1 := F0.pt u1
  clear h0_0 u1 F0
  clear Kp0 ks_0 ms_0 hr1 G1 hs1 hgx
  refine wl_p (ex_as (v := (.pointer none)) rfl) (by rw [F1.size]; decide) fun a2 u2 (h2_2 : a2.tmps.getD 2 undef = (.pointer none)) => ?_
  have F2 := F1.pt u2
  have h1_2 := u2.v 1 h1_1 (by decide)
  clear h1_1 u2 F1
  change Code.wp _ _ _ _ _
  refine wp_seq ?_
  obtain ⟨w2, hw2⟩ : ∃ w, w = w1.drew := ⟨_, rfl⟩
  have G2 : w1.grownBy w2 none := hw2 ▸ grown_drew _
  have Bx_2 := Bx_1.gn G2
  have Kp2 := Kp1.new G2
  have ks_2 := ks_1.gn G2
  have ms_2 := ms_1.gn G2
  refine rg_ord (S := fun w' => Blk w' gx 30 #[(.int .u64 num), (.string s.title), (.string s.uri), (.float .f64 (fb s.e)), (.int .i64 s.li), (.int .i64 s.off), kv, mv, (.slice none 0 0), (.bool s.disc), (.string s.date)]) [0, 1, 2, 3, 4, 5, 6, 7, 8, 9, 10, 11, 13, 14, 16, 17, 19, 20, 21, 22] [12, 15, 18, 23, 24, 25] ⟨rfl, by decide⟩ hmix (by kernel_rfl) (by rw [show w1.drew = w2 from hw2.symm]; exact Bx_2) ?_
  rw [show w1.drew = w2 from hw2.symm]
  clear Bx_1 Kp1 ks_1 ms_1 hw2 G2
  refine mh_p (fun w hw => ex_fa (T := 30) (f := 1) (k := 1) (b := gx) (fun _ _ => by kernel_rfl) h1_2) (by rw [F2.size]; decide) fun a3 u3 (h3_3 : a3.tmps.getD 3 undef = (.pointer (some ⟨gx, 1, none⟩))) => ?_
  have F3 := F2.pt u3
  have h1_3 := u3.v 1 h1_2 (by decide)
  have h2_3 := u3.v 2 h2_2 (by decide)
  clear h1_2 h2_2 u3 F2
  refine mh_p (fun w hw => ex_ld (v := (.string s.title)) (ad := ⟨gx, 1, none⟩) (fun _ => by kernel_rfl) h3_3 (hw.cell 1)) (by rw [F3.size]; decide) fun a4 u4 (h4_4 : a4.tmps.getD 4 undef = (.string s.title)) => ?_
  have F4 := F3.pt u4
  have h1_4 := u4.v 1 h1_3 (by decide)
  have h2_4 := u4.v 2 h2_3 (by decide)
  have h3_4 := u4.v 3 h3_3 (by decide)
  clear h1_3 h2_3 h3_3 u4 F3
  refine mh_p (fun w hw => ex_fa (T := 30) (f := 2) (k := 2) (b := gx) (fun _ _ => by kernel_rfl) h1_4) (by rw [F4.size]; decide) fun a5 u5 (h5_5 : a5.tmps.getD 5 undef = (.pointer (some ⟨gx, 2, none⟩))) => ?_
  have F5 := F4.pt u5
  have h1_5 := u5.v 1 h1_4 (by decide)
  have h2_5 := u5.v 2 h2_4 (by decide)
  have h3_5 := u5.v 3 h3_4 (by decide)
  have h4_5 := u5.v 4 h4_4 (by decide)
  clear h1_4 h2_4 h3_4 h4_4 u5 F4
  refine mh_p (fun w hw => ex_ld (v := (.string s.uri)) (ad := ⟨gx, 2, none⟩) (fun _ => by kernel_rfl) h5_5 (hw.cell 2)) (by rw [F5.size]; decide) fun a6 u6 (h6_6 : a6.tmps.getD 6 undef = (.string s.uri)) => ?_
  have F6 := F5.pt u6
  have h1_6 := u6.v 1 h1_5 (by decide)
  have h2_6 := u6.v 2 h2_5 (by decide)
  have h3_6 := u6.v 3 h3_5 (by decide)
  have h4_6 := u6.v 4 h4_5 (by decide)
  have h5_6 := u6.v 5 h5_5 (by decide)
  clear h1_5 h2_5 h3_5 h4_5 h5_5 u6 F5
  refine mh_p (fun w hw => ex_fa (T := 30) (f := 3) (k := 3) (b := gx) (fun _ _ => by kernel_rfl) h1_6) (by rw [F6.size]; decide) fun a7 u7 (h7_7 : a7.tmps.getD 7 undef = (.pointer (some ⟨gx, 3, none⟩))) => ?_
  have F7 := F6.pt u7
  have h1_7 := u7.v 1 h1_6 (by decide)
  have h2_7 := u7.v 2 h2_6 (by decide)
  have h3_7 := u7.v 3 h3_6 (by decide)
  have h4_7 := u7.v 4 h4_6 (by decide)
  have h5_7 := u7.v 5 h5_6 (by decide)
  have h6_7 := u7.v 6 h6_6 (by decide)
  clear h1_6 h2_6 h3_6 h4_6 h5_6 h6_6 u7 F6
  refine mh_p (fun w hw => ex_ld (v := (.float .f64 (fb s.e))) (ad := ⟨gx, 3, none⟩) (fun _ => by kernel_rfl) h7_7 (hw.cell 3)) (by rw [F7.size]; decide) fun a8 u8 (h8_8 : a8.tmps.getD 8 undef = (.float .f64 (fb s.e))) => ?_
  have F8 := F7.pt u8
  have h1_8 := u8.v 1 h1_7 (by decide)
  have h2_8 := u8.v 2 h2_7 (by decide)
  have h3_8 := u8.v 3 h3_7 (by decide)
  have h4_8 := u8.v 4 h4_7 (by decide)
  have h5_8 := u8.v 5 h5_7 (by decide)
  have h6_8 := u8.v 6 h6_7 (by decide)
  have h7_8 := u8.v 7 h7_7 (by decide)
  clear h1_7 h2_7 h3_7 h4_7 h5_7 h6_7 h7_7 u8 F7
  refine mh_p (fun w hw => ex_fa (T := 30) (f := 4) (k := 4) (b := gx) (fun _ _ => by kernel_rfl) h1_8) (by rw [F8.size]; decide) fun a9 u9 (h9_9 : a9.tmps.getD 9 undef = (.pointer (some ⟨gx, 4, none⟩))) => ?_
  have F9 := F8.pt u9
  have h1_9 := u9.v 1 h1_8 (by decide)
  have h2_9 := u9.v 2 h2_8 (by decide)
  have h3_9 := u9.v 3 h3_8 (by decide)
  have h4_9 := u9.v 4 h4_8 (by decide)
  have h5_9 := u9.v 5 h5_8 (by decide)
  have h6_9 := u9.v 6 h6_8 (by decide)
  have h7_9 := u9.v 7 h7_8 (by decide)
  have h8_9 := u9.v 8 h8_8 (by decide)
  clear h1_8 h2_8 h3_8 h4_8 h5_8 h6_8 h7_8 h8_8 u9 F8
  refine mh_p (fun w hw => ex_ld (v := (.int .i64 s.li)) (ad := ⟨gx, 4, none⟩) (fun _ => by kernel_rfl) h9_9 (hw.cell 4)) (by rw [F9.size]; decide) fun a10 u10 (h10_10 : a10.tmps.getD 10 undef = (.int .i64 s.li)) => ?_
  have F10 := F9.pt u10
  have h1_10 := u10.v 1 h1_9 (by decide)
  have h2_10 := u10.v 2 h2_9 (by decide)
  have h3_10 := u10.v 3 h3_9 (by decide)
  have h4_10 := u10.v 4 h4_9 (by decide)
  have h5_10 := u10.v 5 h5_9 (by decide)
  have h6_10 := u10.v 6 h6_9 (by decide)
  have h7_10 := u10.v 7 h7_9 (by decide)
  have h8_10 := u10.v 8 h8_9 (by decide)
  have h9_10 := u10.v 9 h9_9 (by decide)
  clear h1_9 h2_9 h3_9 h4_9 h5_9 h6_9 h7_9 h8_9 h9_9 u10 F9
  refine mh_p (fun w hw => ex_fa (T := 30) (f := 5) (k := 5) (b := gx) (fun _ _ => by kernel_rfl) h1_10) (by rw [F10.size]; decide) fun a11 u11 (h11_11 : a11.tmps.getD 11 undef = (.pointer (some ⟨gx, 5, none⟩))) => ?_
  have F11 := F10.pt u11
  have h1_11 := u11.v 1 h1_10 (by decide)
  have h2_11 := u11.v 2 h2_10 (by decide)
  have h3_11 := u11.v 3 h3_10 (by decide)
  have h4_11 := u11.v 4 h4_10 (by decide)
  have h5_11 := u11.v 5 h5_10 (by decide)
  have h6_11 := u11.v 6 h6_10 (by decide)
  have h7_11 := u11.v 7 h7_10 (by decide)
  have h8_11 := u11.v 8 h8_10 (by decide)
  have h9_11 := u11.v 9 h9_10 (by decide)
  have h10_11 := u11.v 10 h10_10 (by decide)
  clear h1_10 h2_10 h3_10 h4_10 h5_10 h6_10 h7_10 h8_10 h9_10 h10_10 u11 F10
  refine mh_p (fun w hw => ex_ld (v := (.int .i64 s.off)) (ad := ⟨gx, 5, none⟩) (fun _ => by kernel_rfl) h11_11 (hw.cell 5)) (by rw [F11.size]; decide) fun a12 u12 (h12_12 : a12.tmps.getD 12 undef = (.int .i64 s.off)) => ?_
  have F12 := F11.pt u12
  have h1_12 := u12.v 1 h1_11 (by decide)
  have h2_12 := u12.v 2 h2_11 (by decide)
  have h3_12 := u12.v 3 h3_11 (by decide)
  have h4_12 := u12.v 4 h4_11 (by decide)
  have h5_12 := u12.v 5 h5_11 (by decide)
  have h6_12 := u12.v 6 h6_11 (by decide)
  have h7_12 := u12.v 7 h7_11 (by decide)
  have h8_12 := u12.v 8 h8_11 (by decide)
  have h9_12 := u12.v 9 h9_11 (by decide)
  have h10_12 := u12.v 10 h10_11 (by decide)
  have h11_12 := u12.v 11 h11_11 (by decide)
  clear h1_11 h2_11 h3_11 h4_11 h5_11 h6_11 h7_11 h8_11 h9_11 h10_11 h11_11 u12 F11
  refine mh_p (fun w hw => ex_fa (T := 30) (f := 6) (k := 6) (b := gx) (fun _ _ => by kernel_rfl) h1_12) (by rw [F12.size]; decide) fun a13 u13 (h13_13 : a13.tmps.getD 13 undef = (.pointer (some ⟨gx, 6, none⟩))) => ?_
  have F13 := F12.pt u13
  have h1_13 := u13.v 1 h1_12 (by decide)
  have h2_13 := u13.v 2 h2_12 (by decide)
  have h3_13 := u13.v 3 h3_12 (by decide)
  have h4_13 := u13.v 4 h4_12 (by decide)
  have h5_13 := u13.v 5 h5_12 (by decide)
  have h6_13 := u13.v 6 h6_12 (by decide)
  have h7_13 := u13.v 7 h7_12 (by decide)
  have h8_13 := u13.v 8 h8_12 (by decide)
  have h9_13 := u13.v 9 h9_12 (by decide)
  have h10_13 := u13.v 10 h10_12 (by decide)
  have h11_13 := u13.v 11 h11_12 (by decide)
  have h12_13 := u13.v 12 h12_12 (by decide)
  clear h1_12 h2_12 h3_12 h4_12 h5_12 h6_12 h7_12 h8_12 h9_12 h10_12 h11_12 h12_12 u13 F12
  refine mh_p (fun w hw => ex_ld (v := kv) (ad := ⟨gx, 6, none⟩) (fun _ => by kernel_rfl) h13_13 (hw.cell 6)) (by rw [F13.size]; decide) fun a14 u14 (h14_14 : a14.tmps.getD 14 undef = kv) => ?_
  have F14 := F13.pt u14
  have h1_14 := u14.v 1 h1_13 (by decide)
  have h2_14 := u14.v 2 h2_13 (by decide)
  have h3_14 := u14.v 3 h3_13 (by decide)
  have h4_14 := u14.v 4 h4_13 (by decide)
  have h5_14 := u14.v 5 h5_13 (by decide)
  have h6_14 := u14.v 6 h6_13 (by decide)
  have h7_14 := u14.v 7 h7_13 (by decide)
  have h8_14 := u14.v 8 h8_13 (by decide)
  have h9_14 := u14.v 9 h9_13 (by decide)
  have h10_14 := u14.v 10 h10_13 (by decide)
  have h11_14 := u14.v 11 h11_13 (by decide)
  have h12_14 := u14.v 12 h12_13 (by decide)
  have h13_14 := u14.v 13 h13_13 (by decide)
  clear h1_13 h2_13 h3_13 h4_13 h5_13 h6_13 h7_13 h8_13 h9_13 h10_13 h11_13 h12_13 h13_13 u14 F13
  refine mh_p (fun w hw => ex_fa (T := 30) (f := 7) (k := 7) (b := gx) (fun _ _ => by kernel_rfl) h1_14) (by rw [F14.size]; decide) fun a15 u15 (h16_15 : a15.tmps.getD 16 undef = (.pointer (some ⟨gx, 7, none⟩))) => ?_
  have F15 := F14.pt u15
  have h1_15 := u15.v 1 h1_14 (by decide)
  have h2_15 := u15.v 2 h2_14 (by decide)
  have h3_15 := u15.v 3 h3_14 (by decide)
  have h4_15 := u15.v 4 h4_14 (by decide)
  have h5_15 := u15.v 5 h5_14 (by decide)
  have h6_15 := u15.v 6 h6_14 (by decide)
  have h7_15 := u15.v 7 h7_14 (by decide)
  have h8_15 := u15.v 8 h8_14 (by decide)
  have h9_15 := u15.v 9 h9_14 (by decide)
  have h10_15 := u15.v 10 h10_14 (by decide)
  have h11_15 := u15.v 11 h11_14 (by decide)
  have h12_15 := u15.v 12 h12_14 (by decide)
  have h13_15 := u15.v 13 h13_14 (by decide)
  have h14_15 := u15.v 14 h14_14 (by decide)
  clear h1_14 h2_14 h3_14 h4_14 h5_14 h6_14 h7_14 h8_14 h9_14 h10_14 h11_14 h12_14 h13_14 h14_14 u15 F14
  refine mh_p (fun w hw => ex_ld (v := mv) (ad := ⟨gx, 7, none⟩) (fun _ => by kernel_rfl) h16_15 (hw.cell 7)) (by rw [F15.size]; decide) fun a16 u16 (h17_16 : a16.tmps.getD 17 undef = mv) => ?_
  have F16 := F15.pt u16
  have h1_16 := u16.v 1 h1_15 (by decide)
  have h2_16 := u16.v 2 h2_15 (by decide)
  have h3_16 := u16.v 3 h3_15 (by decide)
  have h4_16 := u16.v 4 h4_15 (by decide)
  have h5_16 := u16.v 5 h5_15 (by decide)
  have h6_16 := u16.v 6 h6_15 (by decide)
  have h7_16 := u16.v 7 h7_15 (by decide)
  have h8_16 := u16.v 8 h8_15 (by decide)
  have h9_16 := u16.v 9 h9_15 (by decide)
  have h10_16 := u16.v 10 h10_15 (by decide)
  have h11_16 := u16.v 11 h11_15 (by decide)
  have h12_16 := u16.v 12 h12_15 (by decide)
  have h13_16 := u16.v 13 h13_15 (by decide)
  have h14_16 := u16.v 14 h14_15 (by decide)
  have h16_16 := u16.v 16 h16_15 (by decide)
  clear h1_15 h2_15 h3_15 h4_15 h5_15 h6_15 h7_15 h8_15 h9_15 h10_15 h11_15 h12_15 h13_15 h14_15 h16_15 u16 F15
  refine mh_p (fun w hw => ex_fa (T := 30) (f := 8) (k := 8) (b := gx) (fun _ _ => by kernel_rfl) h1_16) (by rw [F16.size]; decide) fun a17 u17 (h19_17 : a17.tmps.getD 19 undef = (.pointer (some ⟨gx, 8, none⟩))) => ?_
  have F17 := F16.pt u17
  have h1_17 := u17.v 1 h1_16 (by decide)
  have h2_17 := u17.v 2 h2_16 (by decide)
  have h3_17 := u17.v 3 h3_16 (by decide)
  have h4_17 := u17.v 4 h4_16 (by decide)
  have h5_17 := u17.v 5 h5_16 (by decide)
  have h6_17 := u17.v 6 h6_16 (by decide)
  have h7_17 := u17.v 7 h7_16 (by decide)
  have h8_17 := u17.v 8 h8_16 (by decide)
  have h9_17 := u17.v 9 h9_16 (by decide)
  have h10_17 := u17.v 10 h10_16 (by decide)
  have h11_17 := u17.v 11 h11_16 (by decide)
  have h12_17 := u17.v 12 h12_16 (by decide)
  have h13_17 := u17.v 13 h13_16 (by decide)
  have h14_17 := u17.v 14 h14_16 (by decide)
  have h16_17 := u17.v 16 h16_16 (by decide)
  have h17_17 := u17.v 17 h17_16 (by decide)
  clear h1_16 h2_16 h3_16 h4_16 h5_16 h6_16 h7_16 h8_16 h9_16 h10_16 h11_16 h12_16 h13_16 h14_16 h16_16 h17_16 u17 F16
  refine mh_p (fun w hw => ex_ld (v := (.slice none 0 0)) (ad := ⟨gx, 8, none⟩) (fun _ => by kernel_rfl) h19_17 (hw.cell 8)) (by rw [F17.size]; decide) fun a18 u18 (h20_18 : a18.tmps.getD 20 undef = (.slice none 0 0)) => ?_
  have F18 := F17.pt u18
  have h1_18 := u18.v 1 h1_17 (by decide)
  have h2_18 := u18.v 2 h2_17 (by decide)
  have h3_18 := u18.v 3 h3_17 (by decide)
  have h4_18 := u18.v 4 h4_17 (by decide)
  have h5_18 := u18.v 5 h5_17 (by decide)
  have h6_18 := u18.v 6 h6_17 (by decide)
  have h7_18 := u18.v 7 h7_17 (by decide)
  have h8_18 := u18.v 8 h8_17 (by decide)
  have h9_18 := u18.v 9 h9_17 (by decide)
  have h10_18 := u18.v 10 h10_17 (by decide)
  have h11_18 := u18.v 11 h11_17 (by decide)
  have h12_18 := u18.v 12 h12_17 (by decide)
  have h13_18 := u18.v 13 h13_17 (by decide)
  have h14_18 := u18.v 14 h14_17 (by decide)
  have h16_18 := u18.v 16 h16_17 (by decide)
  have h17_18 := u18.v 17 h17_17 (by decide)
  have h19_18 := u18.v 19 h19_17 (by decide)
  clear h1_17 h2_17 h3_17 h4_17 h5_17 h6_17 h7_17 h8_17 h9_17 h10_17 h11_17 h12_17 h13_17 h14_17 h16_17 h17_17 h19_17 u18 F17
  refine mh_p (fun w hw => ex_fa (T := 30) (f := 9) (k := 9) (b := gx) (fun _ _ => by kernel_rfl) h1_18) (by rw [F18.size]; decide) fun a19 u19 (h22_19 : a19.tmps.getD 22 undef = (.pointer (some ⟨gx, 9, none⟩))) => ?_
  have F19 := F18.pt u19
  have h1_19 := u19.v 1 h1_18 (by decide)
  have h2_19 := u19.v 2 h2_18 (by decide)
  have h3_19 := u19.v 3 h3_18 (by decide)
  have h4_19 := u19.v 4 h4_18 (by decide)
  have h5_19 := u19.v 5 h5_18 (by decide)
  have h6_19 := u19.v 6 h6_18 (by decide)
  have h7_19 := u19.v 7 h7_18 (by decide)
  have h8_19 := u19.v 8 h8_18 (by decide)
  have h9_19 := u19.v 9 h9_18 (by decide)
  have h10_19 := u19.v 10 h10_18 (by decide)
  have h11_19 := u19.v 11 h11_18 (by decide)
  have h12_19 := u19.v 12 h12_18 (by decide)
  have h13_19 := u19.v 13 h13_18 (by decide)
  have h14_19 := u19.v 14 h14_18 (by decide)
  have h16_19 := u19.v 16 h16_18 (by decide)
  have h17_19 := u19.v 17 h17_18 (by decide)
  have h19_19 := u19.v 19 h19_18 (by decide)
  have h20_19 := u19.v 20 h20_18 (by decide)
  clear h1_18 h2_18 h3_18 h4_18 h5_18 h6_18 h7_18 h8_18 h9_18 h10_18 h11_18 h12_18 h13_18 h14_18 h16_18 h17_18 h19_18 h20_18 u19 F18
  refine mh_p (fun w hw => ex_ld (v := (.bool s.disc)) (ad := ⟨gx, 9, none⟩) (fun _ => by kernel_rfl) h22_19 (hw.cell 9)) (by rw [F19.size]; decide) fun a20 u20 (h23_20 : a20.tmps.getD 23 undef = (.bool s.disc)) => ?_
  have F20 := F19.pt u20
  have h1_20 := u20.v 1 h1_19 (by decide)
  have h2_20 := u20.v 2 h2_19 (by decide)
  have h3_20 := u20.v 3 h3_19 (by decide)
  have h4_20 := u20.v 4 h4_19 (by decide)
  have h5_20 := u20.v 5 h5_19 (by decide)
  have h6_20 := u20.v 6 h6_19 (by decide)
  have h7_20 := u20.v 7 h7_19 (by decide)
  have h8_20 := u20.v 8 h8_19 (by decide)
  have h9_20 := u20.v 9 h9_19 (by decide)
  have h10_20 := u20.v 10 h10_19 (by decide)
  have h11_20 := u20.v 11 h11_19 (by decide)
  have h12_20 := u20.v 12 h12_19 (by decide)
  have h13_20 := u20.v 13 h13_19 (by decide)
  have h14_20 := u20.v 14 h14_19 (by decide)
  have h16_20 := u20.v 16 h16_19 (by decide)
  have h17_20 := u20.v 17 h17_19 (by decide)
  have h19_20 := u20.v 19 h19_19 (by decide)
  have h20_20 := u20.v 20 h20_19 (by decide)
  have h22_20 := u20.v 22 h22_19 (by decide)
  clear h1_19 h2_19 h3_19 h4_19 h5_19 h6_19 h7_19 h8_19 h9_19 h10_19 h11_19 h12_19 h13_19 h14_19 h16_19 h17_19 h19_19 h20_19 h22_19 u20 F19
  refine mh_p (fun w hw => ex_fa (T := 30) (f := 10) (k := 10) (b := gx) (fun _ _ => by kernel_rfl) h1_20) (by rw [F20.size]; decide) fun a21 u21 (h24_21 : a21.tmps.getD 24 undef = (.pointer (some ⟨gx, 10, none⟩))) => ?_
  have F21 := F20.pt u21
  have h1_21 := u21.v 1 h1_20 (by decide)
  have h2_21 := u21.v 2 h2_20 (by decide)
  have h3_21 := u21.v 3 h3_20 (by decide)
  have h4_21 := u21.v 4 h4_20 (by decide)
  have h5_21 := u21.v 5 h5_20 (by decide)
  have h6_21 := u21.v 6 h6_20 (by decide)
  have h7_21 := u21.v 7 h7_20 (by decide)
  have h8_21 := u21.v 8 h8_20 (by decide)
  have h9_21 := u21.v 9 h9_20 (by decide)
  have h10_21 := u21.v 10 h10_20 (by decide)
  have h11_21 := u21.v 11 h11_20 (by decide)
  have h12_21 := u21.v 12 h12_20 (by decide)
  have h13_21 := u21.v 13 h13_20 (by decide)
  have h14_21 := u21.v 14 h14_20 (by decide)
  have h16_21 := u21.v 16 h16_20 (by decide)
  have h17_21 := u21.v 17 h17_20 (by decide)
  have h19_21 := u21.v 19 h19_20 (by decide)
  have h20_21 := u21.v 20 h20_20 (by decide)
  have h22_21 := u21.v 22 h22_20 (by decide)
  have h23_21 := u21.v 23 h23_20 (by decide)
  clear h1_20 h2_20 h3_20 h4_20 h5_20 h6_20 h7_20 h8_20 h9_20 h10_20 h11_20 h12_20 h13_20 h14_20 h16_20 h17_20 h19_20 h20_20 h22_20 h23_20 u21 F20
  refine mh_p (fun w hw => ex_ld (v := (.string s.date)) (ad := ⟨gx, 10, none⟩) (fun _ => by kernel_rfl) h24_21 (hw.cell 10)) (by rw [F21.size]; decide) fun a22 u22 (h25_22 : a22.tmps.getD 25 undef = (.string s.date)) => ?_
  have F22 := F21.pt u22
  have h1_22 := u22.v 1 h1_21 (by decide)
  have h2_22 := u22.v 2 h2_21 (by decide)
  have h3_22 := u22.v 3 h3_21 (by decide)
  have h4_22 := u22.v 4 h4_21 (by decide)
  have h5_22 := u22.v 5 h5_21 (by decide)
  have h6_22 := u22.v 6 h6_21 (by decide)
  have h7_22 := u22.v 7 h7_21 (by decide)
  have h8_22 := u22.v 8 h8_21 (by decide)
  have h9_22 := u22.v 9 h9_21 (by decide)
  have h10_22 := u22.v 10 h10_21 (by decide)
  have h11_22 := u22.v 11 h11_21 (by decide)
  have h12_22 := u22.v 12 h12_21 (by decide)
  have h13_22 := u22.v 13 h13_21 (by decide)
  have h14_22 := u22.v 14 h14_21 (by decide)
  have h16_22 := u22.v 16 h16_21 (by decide)
  have h17_22 := u22.v 17 h17_21 (by decide)
  have h19_22 := u22.v 19 h19_21 (by decide)
  have h20_22 := u22.v 20 h20_21 (by decide)
  have h22_22 := u22.v 22 h22_21 (by decide)
  have h23_22 := u22.v 23 h23_21 (by decide)
  have h24_22 := u22.v 24 h24_21 (by decide)
  clear h1_21 h2_21 h3_21 h4_21 h5_21 h6_21 h7_21 h8_21 h9_21 h10_21 h11_21 h12_21 h13_21 h14_21 h16_21 h17_21 h19_21 h20_21 h22_21 h23_21 h24_21 u22 F21
  refine mt_cl (args := #[kv]) (R := fun v w' => ∃ kp, v = pto kp ∧ KeyP w' w2.heap.size kp s.key ∧ w2.grownBy w' none) (ex_cl (fun _ _ => by kernel_rfl) (arg1 h14_22)) ((keyTo_any ks_2).mono fun _ _ ⟨kp, h⟩ => ⟨_, h.1, kp, rfl, h.2⟩) (by rw [F22.size]; decide) ?_
  rintro v w3 ⟨kp, rfl, kk_3, G3⟩
  replace kk_3 := kk_3.lo' Kp2.size
  have Bx_3 := Bx_2.gn G3
  have Kp3 := Kp2.new G3
  have ks_3 := ks_2.gn G3
  have ms_3 := ms_2.gn G3
  refine ⟨Bx_3, ?_⟩
  intro a23 u23 h15_23
  have F23 := F22.pt u23
  have h1_23 := u23.v 1 h1_22 (by decide)
  have h2_23 := u23.v 2 h2_22 (by decide)
  have h3_23 := u23.v 3 h3_22 (by decide)
  have h4_23 := u23.v 4 h4_22 (by decide)
  have h5_23 := u23.v 5 h5_22 (by decide)
  have h6_23 := u23.v 6 h6_22 (by decide)
  have h7_23 := u23.v 7 h7_22 (by decide)
  have h8_23 := u23.v 8 h8_22 (by decide)
  have h9_23 := u23.v 9 h9_22 (by decide)
  have h10_23 := u23.v 10 h10_22 (by decide)
  have h11_23 := u23.v 11 h11_22 (by decide)
  have h12_23 := u23.v 12 h12_22 (by decide)
  have h13_23 := u23.v 13 h13_22 (by decide)
  have h14_23 := u23.v 14 h14_22 (by decide)
  have h16_23 := u23.v 16 h16_22 (by decide)
  have h17_23 := u23.v 17 h17_22 (by decide)
  have h19_23 := u23.v 19 h19_22 (by decide)
  have h20_23 := u23.v 20 h20_22 (by decide)
  have h22_23 := u23.v 22 h22_22 (by decide)
  have h23_23 := u23.v 23 h23_22 (by decide)
  have h24_23 := u23.v 24 h24_22 (by decide)
  have h25_23 := u23.v 25 h25_22 (by decide)
  clear h1_22 h2_22 h3_22 h4_22 h5_22 h6_22 h7_22 h8_22 h9_22 h10_22 h11_22 h12_22 h13_22 h14_22 h16_22 h17_22 h19_22 h20_22 h22_22 h23_22 h24_22 h25_22 u23 F22
  clear Bx_2 Kp2 ks_2 ms_2 G3
  refine mt_cl (args := #[mv]) (R := fun v w' => ∃ kp, v = pto kp ∧ MapP w' w3.heap.size kp s.map ∧ w3.grownBy w' none) (ex_cl (fun _ _ => by kernel_rfl) (arg1 h17_23)) ((mapTo_any ms_3).mono fun _ _ ⟨kp, h⟩ => ⟨_, h.1, kp, rfl, h.2⟩) (by rw [F23.size]; decide) ?_
  rintro v w4 ⟨mp, rfl, mm_4, G4⟩
  replace mm_4 := mm_4.lo' Kp3.size
  have Bx_4 := Bx_3.gn G4
  have Kp4 := Kp3.new G4
  have ks_4 := ks_3.gn G4
  have ms_4 := ms_3.gn G4
  have kk_4 := kk_3.gn G4
  refine ⟨Bx_4, ?_⟩
  intro a24 u24 h18_24
  have F24 := F23.pt u24
  have h1_24 := u24.v 1 h1_23 (by decide)
  have h2_24 := u24.v 2 h2_23 (by decide)
  have h3_24 := u24.v 3 h3_23 (by decide)
  have h4_24 := u24.v 4 h4_23 (by decide)
  have h5_24 := u24.v 5 h5_23 (by decide)
  have h6_24 := u24.v 6 h6_23 (by decide)
  have h7_24 := u24.v 7 h7_23 (by decide)
  have h8_24 := u24.v 8 h8_23 (by decide)
  have h9_24 := u24.v 9 h9_23 (by decide)
  have h10_24 := u24.v 10 h10_23 (by decide)
  have h11_24 := u24.v 11 h11_23 (by decide)
  have h12_24 := u24.v 12 h12_23 (by decide)
  have h13_24 := u24.v 13 h13_23 (by decide)
  have h14_24 := u24.v 14 h14_23 (by decide)
  have h16_24 := u24.v 16 h16_23 (by decide)
  have h17_24 := u24.v 17 h17_23 (by decide)
  have h19_24 := u24.v 19 h19_23 (by decide)
  have h20_24 := u24.v 20 h20_23 (by decide)
  have h22_24 := u24.v 22 h22_23 (by decide)
  have h23_24 := u24.v 23 h23_23 (by decide)
  have h24_24 := u24.v 24 h24_23 (by decide)
  have h25_24 := u24.v 25 h25_23 (by decide)
  have h15_24 := u24.v 15 h15_23 (by decide)
  clear h1_23 h2_23 h3_23 h4_23 h5_23 h6_23 h7_23 h8_23 h9_23 h10_23 h11_23 h12_23 h13_23 h14_23 h16_23 h17_23 h19_23 h20_23 h22_23 h23_23 h24_23 h25_23 h15_23 u24 F23
  clear Bx_3 Kp3 ks_3 ms_3 kk_3 G4
  refine mt_cl (args := #[(.slice none 0 0)]) (R := fun v w' => v = (.pointer none) ∧ (w4 = w')) (ex_cl (fun _ _ => by kernel_rfl) (arg1 h20_24)) ((cueTo_no).mono fun _ _ h => ⟨_, h.1, rfl, h.2⟩) (by rw [F24.size]; decide) ?_
  rintro v w' ⟨rfl, rfl⟩
  refine ⟨Bx_4, ?_⟩
  intro a25 u25 h21_25
  have F25 := F24.pt u25
  have h1_25 := u25.v 1 h1_24 (by decide)
  have h2_25 := u25.v 2 h2_24 (by decide)
  have h3_25 := u25.v 3 h3_24 (by decide)
  have h4_25 := u25.v 4 h4_24 (by decide)
  have h5_25 := u25.v 5 h5_24 (by decide)
  have h6_25 := u25.v 6 h6_24 (by decide)
  have h7_25 := u25.v 7 h7_24 (by decide)
  have h8_25 := u25.v 8 h8_24 (by decide)
  have h9_25 := u25.v 9 h9_24 (by decide)
  have h10_25 := u25.v 10 h10_24 (by decide)
  have h11_25 := u25.v 11 h11_24 (by decide)
  have h12_25 := u25.v 12 h12_24 (by decide)
  have h13_25 := u25.v 13 h13_24 (by decide)
  have h14_25 := u25.v 14 h14_24 (by decide)
  have h16_25 := u25.v 16 h16_24 (by decide)
  have h17_25 := u25.v 17 h17_24 (by decide)
  have h19_25 := u25.v 19 h19_24 (by decide)
  have h20_25 := u25.v 20 h20_24 (by decide)
  have h22_25 := u25.v 22 h22_24 (by decide)
  have h23_25 := u25.v 23 h23_24 (by decide)
  have h24_25 := u25.v 24 h24_24 (by decide)
  have h25_25 := u25.v 25 h25_24 (by decide)
  have h15_25 := u25.v 15 h15_24 (by decide)
  have h18_25 := u25.v 18 h18_24 (by decide)
  clear h1_24 h2_24 h3_24 h4_24 h5_24 h6_24 h7_24 h8_24 h9_24 h10_24 h11_24 h12_24 h13_24 h14_24 h16_24 h17_24 h19_24 h20_24 h22_24 h23_24 h24_24 h25_24 h15_24 h18_24 u25 F24
  refine mt_p (ex_bd (w' := w4) (vs :=  #[(1, (.string s.title)), (2, (.string s.uri)), (3, (.float .f64 (fb s.e))), (4, (.int .i64 s.li)), (5, (.int .i64 s.off)), (6, (pto kp)), (7, (pto mp)), (9, (.pointer none)), (8, (.bool s.disc)), (10, (.string s.date))]) (v := (.agg #[(.int .u64 0), (.string s.title), (.string s.uri), (.float .f64 (fb s.e)), (.int .i64 s.li), (.int .i64 s.off), (pto kp), (pto mp), (.bool s.disc), (.pointer none), (.string s.date)])) (by have e1 : a25.eval (.tmp 4) = (.string s.title) := h4_25; have e2 : a25.eval (.tmp 6) = (.string s.uri) := h6_25; have e3 : a25.eval (.tmp 8) = (.float .f64 (fb s.e)) := h8_25; have e4 : a25.eval (.tmp 10) = (.int .i64 s.li) := h10_25; have e5 : a25.eval (.tmp 12) = (.int .i64 s.off) := h12_25; have e6 : a25.eval (.tmp 15) = (pto kp) := h15_25; have e7 : a25.eval (.tmp 18) = (pto mp) := h18_25; have e9 : a25.eval (.tmp 21) = (.pointer none) := h21_25; have e8 : a25.eval (.tmp 23) = (.bool s.disc) := h23_25; have e10 : a25.eval (.tmp 25) = (.string s.date) := h25_25; simp only [List.map_toArray, List.map_cons, List.map_nil, e1, e2, e3, e4, e5, e6, e7, e9, e8, e10]) (by kernel_rfl)) (Bx_4) (by rw [F25.size]; decide) fun a26 u26 (h26_26 : a26.tmps.getD 26 undef = (.agg #[(.int .u64 0), (.string s.title), (.string s.uri), (.float .f64 (fb s.e)), (.int .i64 s.li), (.int .i64 s.off), (pto kp), (pto mp), (.bool s.disc), (.pointer none), (.string s.date)])) => ?_
  have F26 := F25.pt u26
  have h1_26 := u26.v 1 h1_25 (by decide)
  have h2_26 := u26.v 2 h2_25 (by decide)
  have h3_26 := u26.v 3 h3_25 (by decide)
  have h4_26 := u26.v 4 h4_25 (by decide)
  have h5_26 := u26.v 5 h5_25 (by decide)
  have h6_26 := u26.v 6 h6_25 (by decide)
  have h7_26 := u26.v 7 h7_25 (by decide)
  have h8_26 := u26.v 8 h8_25 (by decide)
  have h9_26 := u26.v 9 h9_25 (by decide)
  have h10_26 := u26.v 10 h10_25 (by decide)
  have h11_26 := u26.v 11 h11_25 (by decide)
  have h12_26 := u26.v 12 h12_25 (by decide)
  have h13_26 := u26.v 13 h13_25 (by decide)
  have h14_26 := u26.v 14 h14_25 (by decide)
  have h16_26 := u26.v 16 h16_25 (by decide)
  have h17_26 := u26.v 17 h17_25 (by decide)
  have h19_26 := u26.v 19 h19_25 (by decide)
  have h20_26 := u26.v 20 h20_25 (by decide)
  have h22_26 := u26.v 22 h22_25 (by decide)
  have h23_26 := u26.v 23 h23_25 (by decide)
  have h24_26 := u26.v 24 h24_25 (by decide)
  have h25_26 := u26.v 25 h25_25 (by decide)
  have h15_26 := u26.v 15 h15_25 (by decide)
  have h18_26 := u26.v 18 h18_25 (by decide)
  have h21_26 := u26.v 21 h21_25 (by decide)
  clear h1_25 h2_25 h3_25 h4_25 h5_25 h6_25 h7_25 h8_25 h9_25 h10_25 h11_25 h12_25 h13_25 h14_25 h16_25 h17_25 h19_25 h20_25 h22_25 h23_25 h24_25 h25_25 h15_25 h18_25 h21_25 u26 F25
  obtain ⟨gq, hgq⟩ : ∃ g, w4.heap.size = g := ⟨_, rfl⟩
  have ne_x_q : gx ≠ gq := by have := Bx_4.lt; omega
  have ge_q : w0.heap.size ≤ gq := by have := Kp4.size; omega
  obtain ⟨w5, hr5, Bq_5, G5, hs5⟩ := al_run (op := Instr.box 96 (.agg #[(.int .u64 0), (.string s.title), (.string s.uri), (.float .f64 (fb s.e)), (.int .i64 s.li), (.int .i64 s.off), (pto kp), (pto mp), (.bool s.disc), (.pointer none), (.string s.date)])) (T := 96) (cs := #[(.int .u64 0), (.string s.title), (.string s.uri), (.float .f64 (fb s.e)), (.int .i64 s.li), (.int .i64 s.off), (pto kp), (pto mp), (.bool s.disc), (.pointer none), (.string s.date)]) hgq (fun _ => by kernel_rfl)
  have Bx_5 := Bx_4.gn G5
  have Kp5 := Kp4.new G5
  have ks_5 := ks_4.gn G5
  have ms_5 := ms_4.gn G5
  have kk_5 := kk_4.gn G5
  have mm_5 := mm_4.gn G5
  refine mt_p (ex_bx h26_26 hr5) (Bx_5) (by rw [F26.size]; decide) fun a27 u27 (h27_27 : a27.tmps.getD 27 undef = (.pointer (some ⟨gq, 0, none⟩))) => ?_
  have F27 := F26.pt u27
  have h1_27 := u27.v 1 h1_26 (by decide)
  have h2_27 := u27.v 2 h2_26 (by decide)
  have h3_27 := u27.v 3 h3_26 (by decide)
  have h4_27 := u27.v 4 h4_26 (by decide)
  have h5_27 := u27.v 5 h5_26 (by decide)
  have h6_27 := u27.v 6 h6_26 (by decide)
  have h7_27 := u27.v 7 h7_26 (by decide)
  have h8_27 := u27.v 8 h8_26 (by decide)
  have h9_27 := u27.v 9 h9_26 (by decide)
  have h10_27 := u27.v 10 h10_26 (by decide)
  have h11_27 := u27.v 11 h11_26 (by decide)
  have h12_27 := u27.v 12 h12_26 (by decide)
  have h13_27 := u27.v 13 h13_26 (by decide)
  have h14_27 := u27.v 14 h14_26 (by decide)
  have h16_27 := u27.v 16 h16_26 (by decide)
  have h17_27 := u27.v 17 h17_26 (by decide)
  have h19_27 := u27.v 19 h19_26 (by decide)
  have h20_27 := u27.v 20 h20_26 (by decide)
  have h22_27 := u27.v 22 h22_26 (by decide)
  have h23_27 := u27.v 23 h23_26 (by decide)
  have h24_27 := u27.v 24 h24_26 (by decide)
  have h25_27 := u27.v 25 h25_26 (by decide)
  have h15_27 := u27.v 15 h15_26 (by decide)
  have h18_27 := u27.v 18 h18_26 (by decide)
  have h21_27 := u27.v 21 h21_26 (by decide)
  have h26_27 := u27.v 26 h26_26 (by decide)
  clear h1_26 h2_26 h3_26 h4_26 h5_26 h6_26 h7_26 h8_26 h9_26 h10_26 h11_26 h12_26 h13_26 h14_26 h16_26 h17_26 h19_26 h20_26 h22_26 h23_26 h24_26 h25_26 h15_26 h18_26 h21_26 h26_26 u27 F26
  clear Bx_4 Kp4 ks_4 ms_4 kk_4 mm_4 hr5 G5 hs5 hgq
  refine mt_p (ex_as (v := (.pointer (some ⟨gq, 0, none⟩))) h27_27) (Bx_5) (by rw [F27.size]; decide) fun a28 u28 (h2_28 : a28.tmps.getD 2 undef = (.pointer (some ⟨gq, 0, none⟩))) => ?_
  have F28 := F27.pt u28
  have h1_28 := u28.v 1 h1_27 (by decide)
  have h3_28 := u28.v 3 h3_27 (by decide)
  have h4_28 := u28.v 4 h4_27 (by decide)
  have h5_28 := u28.v 5 h5_27 (by decide)
  have h6_28 := u28.v 6 h6_27 (by decide)
  have h7_28 := u28.v 7 h7_27 (by decide)
  have h8_28 := u28.v 8 h8_27 (by decide)
  have h9_28 := u28.v 9 h9_27 (by decide)
  have h10_28 := u28.v 10 h10_27 (by decide)
  have h11_28 := u28.v 11 h11_27 (by decide)
  have h12_28 := u28.v 12 h12_27 (by decide)
  have h13_28 := u28.v 13 h13_27 (by decide)
  have h14_28 := u28.v 14 h14_27 (by decide)
  have h16_28 := u28.v 16 h16_27 (by decide)
  have h17_28 := u28.v 17 h17_27 (by decide)
  have h19_28 := u28.v 19 h19_27 (by decide)
  have h20_28 := u28.v 20 h20_27 (by decide)
  have h22_28 := u28.v 22 h22_27 (by decide)
  have h23_28 := u28.v 23 h23_27 (by decide)
  have h24_28 := u28.v 24 h24_27 (by decide)
  have h25_28 := u28.v 25 h25_27 (by decide)
  have h15_28 := u28.v 15 h15_27 (by decide)
  have h18_28 := u28.v 18 h18_27 (by decide)
  have h21_28 := u28.v 21 h21_27 (by decide)
  have h26_28 := u28.v 26 h26_27 (by decide)
  have h27_28 := u28.v 27 h27_27 (by decide)
  clear h1_27 h2_27 h3_27 h4_27 h5_27 h6_27 h7_27 h8_27 h9_27 h10_27 h11_27 h12_27 h13_27 h14_27 h16_27 h17_27 h19_27 h20_27 h22_27 h23_27 h24_27 h25_27 h15_27 h18_27 h21_27 h26_27 h27_27 u28 F27
  change Code.wp _ _ _ _ _
  refine wp_ret ?_
  try simp only [Exit.then, Exit.inBlock]
  exact bodyPost_ret (v := (.pointer (some ⟨gq, 0, none⟩))) ((results_tmp rfl _ _ _).trans (by rw [h2_28])) F28.defers ⟨gq, kp, mp, rfl, Bq_5, kk_5, mm_5, ge_q, Kp5.grown⟩
end Go.Proofs.YtlphcidpaidclaaGreatDoor
