/-
  Makers and setters of a playlist.
-/
import Derived.Test.YtlphcidpaidclaaGreatDoorOps
import Derived.Test.YtlphcidpaidclaaGreatDoorEnl
import Derived.Laws.MakeOwn
namespace Go.Proofs.YtlphcidpaidclaaGreatDoor
open Go.RowKit
set_option maxRecDepth 100000

theorem setwin {b win cap : Nat} {c0 c1 c2 c3 c4 c5 c6 c7 c8 c9 c10 c11 c12 c14 c15 c16 c17 c18 c19 c20 c21 c22 : Value} {w0 : World} (hb : Blk w0 b 70 #[c0, c1, c2, c3, c4, c5, c6, c7, c8, c9, c10, c11, c12, (.int .u64 cap), c14, c15, c16, c17, c18, c19, c20, c21, c22]) (hw : win ≤ cap) :
    Calls Tryz.prog 30 #[pt b, .int .u64 win] w0 fun e w' => e = .returned .nilIface ∧ Blk w' b 70 #[c0, c1, c2, c3, c4, c5, c6, c7, c8, c9, c10, c11, .int .u64 win, (.int .u64 cap), c14, c15, c16, c17, c18, c19, c20, c21, c22] ∧ w0.grownBy w' (some b) := by
  refine calls_of_wp Tryz.func30 rfl ?_
  generalize hA : Act.mk _ _ = a0
  have F0 : Fz 16 a0 := by subst hA; exact ⟨by simp [Tryz.ntmps30], rfl⟩
  have h0_0 : a0.tmps.getD 0 undef = (.pointer (some ⟨b, 0, none⟩)) := by subst hA; exact fr_arg rfl
  have h1_0 : a0.tmps.getD 1 undef = (.int .u64 win) := by subst hA; exact fr_arg rfl
  clear hA
  refine wp_seq ?_
  refine rg_list ?_
  refine wl_p (ex_as (v := .nilIface) rfl) F0.l fun a1 u1 h4_1 => ?_
  have F1 := F0.pt u1
  change Code.wp _ _ _ _ _
  refine wp_seq ?_
  refine wp_seq ?_
  refine rg_list ?_
  refine wl_p (ex_mv (u1.w h1_0)) F1.l fun a2 u2 h5_2 => ?_
  have F2 := F1.pt u2
  refine wl_p (ex_mv (u2.w (u1.w h0_0))) F2.l fun a3 u3 h6_3 => ?_
  have F3 := F2.pt u3
  refine wl_p (ex_nil h6_3) F3.l fun a4 u4 h7_4 => ?_
  have F4 := F3.pt u4
  refine wl_p (ex_fb 13 h7_4) F4.l fun a5 u5 h8_5 => ?_
  have F5 := F4.pt u5
  refine wl_p (ex_le (v := (.int .u64 cap)) h8_5 (hb.cell 13)) F5.l fun a6 u6 h9_6 => ?_
  have F6 := F5.pt u6
  have h5_6 := u6.w (u5.w (u4.w (u3.w h5_2)))
  refine wl_p (ex_bin (v := (.bool false)) h5_6 h9_6 ((bo_gtru _ _ _).trans (by rw [decide_eq_false (by omega)]))) F6.l fun a7 u7 h10_7 => ?_
  have F7 := F6.pt u7
  change Code.wp _ _ _ _ _
  refine wp_cond_false h10_7 ?_
  refine wp_skip ?_
  change Code.wp _ _ _ _ _
  refine wp_seq ?_
  refine rg_list ?_
  have h0_7 := u7.w (u6.w (u5.w (u4.w (u3.w (u2.w (u1.w h0_0))))))
  refine wl_p (ex_mv h0_7) F7.l fun a8 u8 h12_8 => ?_
  have F8 := F7.pt u8
  have h1_8 := u8.w (u7.w (u6.w (u5.w (u4.w (u3.w (u2.w (u1.w h1_0)))))))
  refine wl_p (ex_mv h1_8) F8.l fun a9 u9 h13_9 => ?_
  have F9 := F8.pt u9
  refine wl_p (ex_nil (u9.w h12_8)) F9.l fun a10 u10 h14_10 => ?_
  have F10 := F9.pt u10
  refine wl_p (ex_fb 12 h14_10) F10.l fun a11 u11 h15_11 => ?_
  have F11 := F10.pt u11
  obtain ⟨w1, hr1, Bb_1, G1⟩ := st_run (T := 50) (o := 12) (v := (.int .u64 win)) (cs' := #[c0, c1, c2, c3, c4, c5, c6, c7, c8, c9, c10, c11, (.int .u64 win), (.int .u64 cap), c14, c15, c16, c17, c18, c19, c20, c21, c22]) (fun _ => by kernel_rfl) hb rfl (by simp) rfl
  have Gf := G1
  refine wl_n (ex_st h15_11 (u11.w (u10.w h13_9)) hr1) ?_
  clear hb
  change Code.wp _ _ _ _ _
  refine wp_seq ?_
  refine rg_list ?_
  refine wl_p (ex_as (v := .nilIface) rfl) F11.l fun a12 u12 h4_12 => ?_
  have F12 := F11.pt u12
  change Code.wp _ _ _ _ _
  refine wp_ret ?_
  try simp only [Exit.then, Exit.inBlock]
  exact bodyPost_ret (v := .nilIface) ((results_tmp rfl _ _ _).trans (by rw [h4_12])) F12.defers ⟨rfl, Bb_1, Gf⟩

/-- make([]*MediaSegment, n, n) -/
theorem mkptr_run {w : World} {g : Nat} (hg : w.heap.size = g) (cap : Nat) (hc : cap ≤ 1024) :
    ∃ w', (Instr.makeSlice 61 (.int .u64 cap) (.int .u64 cap)).run Tryz.prog w = .ok (.slice (some ⟨g, 0, none⟩) cap cap) w' ∧ Blk w' g 74 (Array.replicate cap (.pointer none)) ∧ w.grownBy w' none ∧ w'.heap.size = g + 1 := by
  subst hg
  obtain ⟨i, hi, hz, hs, hb⟩ : ∃ i, Tryz.prog.info? 74 = some i ∧ i.zero = some (.pointer none) ∧ i.size = 1 ∧ i.bytes = 8 := by
    have h : (Tryz.prog.info? 74).map (fun i => (i.zero, i.size, i.bytes)) = some (some (.pointer none), 1, 8) := by kernel_rfl
    obtain ⟨i, hi, he⟩ := Option.map_eq_some_iff.1 h
    simp only [Prod.mk.injEq] at he
    exact ⟨i, hi, he.1, he.2.1, he.2.2⟩
  have hr := run_make (P := Tryz.prog) w 61 74 i (.pointer none) Tryz.underlying61 hi hz .u64 .u64 cap cap (by omega) (Int.le_refl _) (by rw [hb]; omega) (by omega)
  have hm : madeCells (Value.pointer none).cells (((cap : Int).toNat) * i.size) = Array.replicate cap (.pointer none) := by
    rw [hs, Nat.mul_one, Int.toNat_natCast]
    unfold madeCells
    apply Array.ext
    · simp
    · intro j h1 h2
      have : (Value.pointer none).cells = #[.pointer none] := rfl
      simp [this, Nat.mod_one j]
  rw [hm, Int.toNat_natCast] at hr
  exact ⟨_, hr, Blk.new rfl, grown_alloc _ _, by simp⟩

theorem newpl {win cap : Nat} {w0 : World} (hw : win ≤ cap) (hcap : cap ≤ 1024) :
    Calls Tryz.prog 14 #[.int .u64 win, .int .u64 cap] w0 fun e w' => ∃ b g, e = .returned (.tuple #[pt b, .nilIface]) ∧ Blk w' b 70 #[(.float .f64 0), (.int .u64 0), (.slice (some ⟨g, 0, none⟩) cap cap), (.string { data := #[] }), (.bool false), (.bool false), (.int .u64 0), (.int .u64 0), (.float .f64 0), (.bool false), (.bool false), (.int .i64 0), (.int .u64 win), (.int .u64 cap), (.int .u64 0), (.int .u64 0), (.int .u64 0), (.slice none 0 0), (.int .i64 0), (.int .i8 0), (.int .u8 3), (.pointer none), (.pointer none)] ∧ Blk w' g 74 (Array.replicate cap (.pointer none)) ∧ g ≠ b ∧ w0.grownBy w' none ∧ w0.heap.size ≤ b ∧ w0.heap.size ≤ g := by
  refine calls_of_wp Tryz.func14 rfl ?_
  generalize hA : Act.mk _ _ = a0
  have F0 : Fz 28 a0 := by subst hA; exact ⟨by simp [Tryz.ntmps14], rfl⟩
  have h0_0 : a0.tmps.getD 0 undef = (.int .u64 win) := by subst hA; exact fr_arg rfl
  have h1_0 : a0.tmps.getD 1 undef = (.int .u64 cap) := by subst hA; exact fr_arg rfl
  clear hA
  have Kp0 := Kp.refl [] w0
  refine wp_seq ?_
  refine rg_list ?_
  refine wl_p (ex_as (v := (.pointer none)) rfl) F0.l fun a1 u1 h4_1 => ?_
  have F1 := F0.pt u1
  refine wl_p (ex_as (v := .nilIface) rfl) F1.l fun a2 u2 h5_2 => ?_
  have F2 := F1.pt u2
  change Code.wp _ _ _ _ _
  refine wp_seq ?_
  refine rg_list ?_
  obtain ⟨gp, hgp⟩ : ∃ g, w0.heap.size = g := ⟨_, rfl⟩
  have ge_p : w0.heap.size ≤ gp := by have := Kp0.size; omega
  obtain ⟨w1, hr1, Bp_1, G1, hs1⟩ := al_run (op := Instr.alloc 70 true (.tuple #[])) (T := 70) (cs := #[(.float .f64 0), (.int .u64 0), (.slice none 0 0), (.string { data := #[] }), (.bool false), (.bool false), (.int .u64 0), (.int .u64 0), (.float .f64 0), (.bool false), (.bool false), (.int .i64 0), (.int .u64 0), (.int .u64 0), (.int .u64 0), (.int .u64 0), (.int .u64 0), (.slice none 0 0), (.int .i64 0), (.int .i8 0), (.int .u8 0), (.pointer none), (.pointer none)]) hgp (fun _ => by kernel_rfl)
  have Kp1 := Kp0.new G1
  refine wl_p (ex_al hr1) F2.l fun a3 u3 (h8_3 : a3.tmps.getD 8 undef = (.pointer (some ⟨gp, 0, none⟩))) => ?_
  have F3 := F2.pt u3
  clear hgp
  refine wl_p (ex_as h8_3) F3.l fun a4 u4 h6_4 => ?_
  have F4 := F3.pt u4
  change Code.wp _ _ _ _ _
  refine wp_seq ?_
  refine rg_list ?_
  refine wl_p (ex_mv h6_4) F4.l fun a5 u5 h9_5 => ?_
  have F5 := F4.pt u5
  refine wl_p (ex_nil h9_5) F5.l fun a6 u6 h10_6 => ?_
  have F6 := F5.pt u6
  refine wl_p (ex_fb 20 h10_6) F6.l fun a7 u7 h11_7 => ?_
  have F7 := F6.pt u7
  obtain ⟨w2, hr2, Bp_2, G2⟩ := st_run (T := 5) (o := 20) (v := (.int .u8 3)) (cs' := #[(.float .f64 0), (.int .u64 0), (.slice none 0 0), (.string { data := #[] }), (.bool false), (.bool false), (.int .u64 0), (.int .u64 0), (.float .f64 0), (.bool false), (.bool false), (.int .i64 0), (.int .u64 0), (.int .u64 0), (.int .u64 0), (.int .u64 0), (.int .u64 0), (.slice none 0 0), (.int .i64 0), (.int .i8 0), (.int .u8 3), (.pointer none), (.pointer none)]) (fun _ => by kernel_rfl) Bp_1 rfl (by simp) rfl
  have Kp2 := Kp1.set G2 (Or.inr ge_p)
  refine wl_n (ex_st h11_7 rfl hr2) ?_
  change Code.wp _ _ _ _ _
  refine wp_seq ?_
  refine rg_list ?_
  have h6_7 := u7.w (u6.w (u5.w h6_4))
  refine wl_p (ex_mv h6_7) F7.l fun a8 u8 h12_8 => ?_
  have F8 := F7.pt u8
  have h1_8 := u8.w (u7.w (u6.w (u5.w (u4.w (u3.w (u2.w (u1.w h1_0)))))))
  refine wl_p (ex_mv h1_8) F8.l fun a9 u9 h13_9 => ?_
  have F9 := F8.pt u9
  refine wl_p (ex_nil (u9.w h12_8)) F9.l fun a10 u10 h14_10 => ?_
  have F10 := F9.pt u10
  refine wl_p (ex_fb 13 h14_10) F10.l fun a11 u11 h15_11 => ?_
  have F11 := F10.pt u11
  obtain ⟨w3, hr3, Bp_3, G3⟩ := st_run (T := 50) (o := 13) (v := (.int .u64 cap)) (cs' := #[(.float .f64 0), (.int .u64 0), (.slice none 0 0), (.string { data := #[] }), (.bool false), (.bool false), (.int .u64 0), (.int .u64 0), (.float .f64 0), (.bool false), (.bool false), (.int .i64 0), (.int .u64 0), (.int .u64 cap), (.int .u64 0), (.int .u64 0), (.int .u64 0), (.slice none 0 0), (.int .i64 0), (.int .i8 0), (.int .u8 3), (.pointer none), (.pointer none)]) (fun _ => by kernel_rfl) Bp_2 rfl (by simp) rfl
  have Kp3 := Kp2.set G3 (Or.inr ge_p)
  refine wl_n (ex_st h15_11 (u11.w (u10.w h13_9)) hr3) ?_
  change Code.wp _ _ _ _ _
  refine wp_seq ?_
  refine wp_seq ?_
  refine rg_list ?_
  have h6_11 := u11.w (u10.w (u9.w (u8.w h6_7)))
  refine wl_p (ex_mv h6_11) F11.l fun a12 u12 h16_12 => ?_
  have F12 := F11.pt u12
  have h0_12 := u12.w (u11.w (u10.w (u9.w (u8.w (u7.w (u6.w (u5.w (u4.w (u3.w (u2.w (u1.w h0_0)))))))))))
  refine wl_p (ex_mv h0_12) F12.l fun a13 u13 h17_13 => ?_
  have F13 := F12.pt u13
  refine wl_cl (args := #[(.pointer (some ⟨gp, 0, none⟩)), (.int .u64 win)]) (R := fun v w' => v = .nilIface ∧ (Blk w' gp 70 #[(.float .f64 0), (.int .u64 0), (.slice none 0 0), (.string { data := #[] }), (.bool false), (.bool false), (.int .u64 0), (.int .u64 0), (.float .f64 0), (.bool false), (.bool false), (.int .i64 0), (.int .u64 win), (.int .u64 cap), (.int .u64 0), (.int .u64 0), (.int .u64 0), (.slice none 0 0), (.int .i64 0), (.int .i8 0), (.int .u8 3), (.pointer none), (.pointer none)] ∧ w3.grownBy w' (some gp))) (ex_cl (fun _ _ => by kernel_rfl) (arg2 (u13.w h16_12) h17_13)) ((setwin Bp_3 hw).mono fun _ _ h => ⟨_, h.1, rfl, h.2⟩) F13.l ?_
  rintro v w4 ⟨rfl, Bp_4, G4⟩
  have Kp4 := Kp3.set G4 (Or.inr ge_p)
  intro a14 u14 h18_14
  have F14 := F13.pt u14
  refine wl_p (ex_as h18_14) F14.l fun a15 u15 h7_15 => ?_
  have F15 := F14.pt u15
  change Code.wp _ _ _ _ _
  refine wp_seq ?_
  refine rg_list ?_
  refine wl_p (ex_mv h7_15) F15.l fun a16 u16 h19_16 => ?_
  have F16 := F15.pt u16
  refine wl_p (ex_bin (vy := .nilIface) (v := (.bool false)) h19_16 rfl (by kernel_rfl)) F16.l fun a17 u17 h20_17 => ?_
  have F17 := F16.pt u17
  change Code.wp _ _ _ _ _
  refine wp_cond_false h20_17 ?_
  refine wp_skip ?_
  change Code.wp _ _ _ _ _
  refine wp_seq ?_
  refine rg_list ?_
  have h6_17 := u17.w (u16.w (u15.w (u14.w (u13.w (u12.w h6_11)))))
  refine wl_p (ex_mv h6_17) F17.l fun a18 u18 h22_18 => ?_
  have F18 := F17.pt u18
  have h1_18 := u18.w (u17.w (u16.w (u15.w (u14.w (u13.w (u12.w (u11.w (u10.w (u9.w h1_8)))))))))
  refine wl_p (ex_mv h1_18) F18.l fun a19 u19 h23_19 => ?_
  have F19 := F18.pt u19
  obtain ⟨gg, hgg⟩ : ∃ g, w4.heap.size = g := ⟨_, rfl⟩
  have ne_p_g : gp ≠ gg := by have := Bp_4.lt; omega
  have ge_g : w0.heap.size ≤ gg := by have := Kp4.size; omega
  obtain ⟨w5, hr5, Bg_5, G5, hs5⟩ := mkptr_run hgg cap (w := w4) (by omega)
  have Bp_5 := Bp_4.gn G5
  have Kp5 := Kp4.new G5
  refine wl_p (ex_ms h23_19 h23_19 hr5) F19.l fun a20 u20 (h24_20 : a20.tmps.getD 24 undef = (.slice (some ⟨gg, 0, none⟩) cap cap)) => ?_
  have F20 := F19.pt u20
  clear hgg
  refine wl_p (ex_nil (u20.w (u19.w h22_18))) F20.l fun a21 u21 h25_21 => ?_
  have F21 := F20.pt u21
  refine wl_p (ex_fb 2 h25_21) F21.l fun a22 u22 h26_22 => ?_
  have F22 := F21.pt u22
  obtain ⟨w6, hr6, Bp_6, G6⟩ := st_run (T := 61) (o := 2) (v := (.slice (some ⟨gg, 0, none⟩) cap cap)) (cs' := #[(.float .f64 0), (.int .u64 0), (.slice (some ⟨gg, 0, none⟩) cap cap), (.string { data := #[] }), (.bool false), (.bool false), (.int .u64 0), (.int .u64 0), (.float .f64 0), (.bool false), (.bool false), (.int .i64 0), (.int .u64 win), (.int .u64 cap), (.int .u64 0), (.int .u64 0), (.int .u64 0), (.slice none 0 0), (.int .i64 0), (.int .i8 0), (.int .u8 3), (.pointer none), (.pointer none)]) (fun _ => by kernel_rfl) Bp_5 rfl (by simp) rfl
  have Bg_6 := Bg_5.gk G6 (Ne.symm ne_p_g)
  have Kp6 := Kp5.set G6 (Or.inr ge_p)
  refine wl_n (ex_st h26_22 (u22.w (u21.w h24_20)) hr6) ?_
  change Code.wp _ _ _ _ _
  refine wp_seq ?_
  refine rg_list ?_
  have h6_22 := u22.w (u21.w (u20.w (u19.w (u18.w h6_17))))
  refine wl_p (ex_mv h6_22) F22.l fun a23 u23 h27_23 => ?_
  have F23 := F22.pt u23
  refine wl_p (ex_as h27_23) F23.l fun a24 u24 h4_24 => ?_
  have F24 := F23.pt u24
  refine wl_p (ex_as (v := .nilIface) rfl) F24.l fun a25 u25 h5_25 => ?_
  have F25 := F24.pt u25
  change Code.wp _ _ _ _ _
  refine wp_ret ?_
  try simp only [Exit.then, Exit.inBlock]
  exact bodyPost_ret (v := .tuple #[(.pointer (some ⟨gp, 0, none⟩)), .nilIface]) ((results_tmp2 rfl _ _ _).trans (by rw [(u25.w h4_24), h5_25])) F25.defers ⟨gp, gg, rfl, Bp_6, Bg_6, Ne.symm ne_p_g, Kp6.grown, ge_p, ge_g⟩
theorem reset17 {b : Nat} {c0 c1 c2 c3 c4 c5 c6 c7 c8 c9 c10 c11 c12 c13 c14 c15 c16 c20 c21 c22 : Value} {w0 : World} (hb : Blk w0 b 70 #[c0, c1, c2, c3, c4, c5, c6, c7, c8, c9, c10, c11, c12, c13, c14, c15, c16, (.slice none 0 0), (.int .i64 0), (.int .i8 0), c20, c21, c22]) :
    Calls Tryz.prog 32 #[.pointer (some ⟨b, 17, none⟩)] w0 fun e w' => e = .returned (.tuple #[]) ∧ Blk w' b 70 #[c0, c1, c2, c3, c4, c5, c6, c7, c8, c9, c10, c11, c12, c13, c14, c15, c16, (.slice none 0 0), (.int .i64 0), (.int .i8 0), c20, c21, c22] ∧ w0.grownBy w' (some b) := by
  refine calls_of_wp Tryz.func32 rfl ?_
  generalize hA : Act.mk _ _ = a0
  have F0 : Fz 16 a0 := by subst hA; exact ⟨by simp [Tryz.ntmps32], rfl⟩
  have h0_0 : a0.tmps.getD 0 undef = (.pointer (some ⟨b, 17, none⟩)) := by subst hA; exact fr_arg rfl
  clear hA
  have Q0 := grown_refl w0 (some b)
  refine wp_seq ?_
  refine rg_list ?_
  refine wl_p (ex_mv h0_0) F0.l fun a1 u1 h2_1 => ?_
  have F1 := F0.pt u1
  refine wl_p (ex_mv (u1.w h0_0)) F1.l fun a2 u2 h3_2 => ?_
  have F2 := F1.pt u2
  refine wl_p (ex_nil h3_2) F2.l fun a3 u3 h4_3 => ?_
  have F3 := F2.pt u3
  refine wl_p (ex_fag (vx := (.pointer (some ⟨b, 17, none⟩))) (v := (.pointer (some ⟨b, 17, none⟩))) h4_3 (by kernel_rfl)) F3.l fun a4 u4 h5_4 => ?_
  have F4 := F3.pt u4
  refine wl_p (ex_le (v := (.slice none 0 0)) h5_4 (hb.cell 17)) F4.l fun a5 u5 h6_5 => ?_
  have F5 := F4.pt u5
  refine wl_p (ex_sl (v := .slice none 0 0) h6_5 rfl rfl rfl (by kernel_rfl)) F5.l fun a6 u6 h7_6 => ?_
  have F6 := F5.pt u6
  have h2_6 := u6.w (u5.w (u4.w (u3.w (u2.w h2_1))))
  refine wl_p (ex_nil h2_6) F6.l fun a7 u7 h8_7 => ?_
  have F7 := F6.pt u7
  refine wl_p (ex_fag (vx := (.pointer (some ⟨b, 17, none⟩))) (v := (.pointer (some ⟨b, 17, none⟩))) h8_7 (by kernel_rfl)) F7.l fun a8 u8 h9_8 => ?_
  have F8 := F7.pt u8
  obtain ⟨w1, hr1, Bb_1, G1⟩ := st_run (T := 23) (o := 17) (v := (.slice none 0 0)) (cs' := #[c0, c1, c2, c3, c4, c5, c6, c7, c8, c9, c10, c11, c12, c13, c14, c15, c16, (.slice none 0 0), (.int .i64 0), (.int .i8 0), c20, c21, c22]) (fun _ => by kernel_rfl) hb rfl (by simp) rfl
  have Q1 : w0.grownBy w1 (some b) := grown_trans Q0 G1
  refine wl_n (ex_st h9_8 (u8.w (u7.w h7_6)) hr1) ?_
  clear hb
  change Code.wp _ _ _ _ _
  refine wp_seq ?_
  refine rg_list ?_
  have h0_8 := u8.w (u7.w (u6.w (u5.w (u4.w (u3.w (u2.w (u1.w h0_0)))))))
  refine wl_p (ex_mv h0_8) F8.l fun a9 u9 h10_9 => ?_
  have F9 := F8.pt u9
  refine wl_p (ex_nil h10_9) F9.l fun a10 u10 h11_10 => ?_
  have F10 := F9.pt u10
  refine wl_p (ex_fag (vx := (.pointer (some ⟨b, 17, none⟩))) (v := (.pointer (some ⟨b, 18, none⟩))) h11_10 (by kernel_rfl)) F10.l fun a11 u11 h12_11 => ?_
  have F11 := F10.pt u11
  obtain ⟨w2, hr2, Bb_2, G2⟩ := st_run (T := 3) (o := 18) (v := (.int .i64 0)) (cs' := #[c0, c1, c2, c3, c4, c5, c6, c7, c8, c9, c10, c11, c12, c13, c14, c15, c16, (.slice none 0 0), (.int .i64 0), (.int .i8 0), c20, c21, c22]) (fun _ => by kernel_rfl) Bb_1 rfl (by simp) rfl
  have Q2 : w0.grownBy w2 (some b) := grown_trans Q1 G2
  refine wl_n (ex_st h12_11 rfl hr2) ?_
  change Code.wp _ _ _ _ _
  refine rg_list ?_
  have h0_11 := u11.w (u10.w (u9.w h0_8))
  refine wl_p (ex_mv h0_11) F11.l fun a12 u12 h13_12 => ?_
  have F12 := F11.pt u12
  refine wl_p (ex_nil h13_12) F12.l fun a13 u13 h14_13 => ?_
  have F13 := F12.pt u13
  refine wl_p (ex_fag (vx := (.pointer (some ⟨b, 17, none⟩))) (v := (.pointer (some ⟨b, 19, none⟩))) h14_13 (by kernel_rfl)) F13.l fun a14 u14 h15_14 => ?_
  have F14 := F13.pt u14
  obtain ⟨w3, hr3, Bb_3, G3⟩ := st_run (T := 64) (o := 19) (v := (.int .i8 0)) (cs' := #[c0, c1, c2, c3, c4, c5, c6, c7, c8, c9, c10, c11, c12, c13, c14, c15, c16, (.slice none 0 0), (.int .i64 0), (.int .i8 0), c20, c21, c22]) (fun _ => by kernel_rfl) Bb_2 rfl (by simp) rfl
  have Q3 : w0.grownBy w3 (some b) := grown_trans Q2 G3
  refine wl_n (ex_st h15_14 rfl hr3) ?_
  exact bodyPost_end (v := .tuple #[]) (results_none rfl _ _ _) F14.defers ⟨rfl, Bb_3, Q3⟩
theorem setver {b : Nat} {v : Nat} {c0 c1 c2 c3 c4 c5 c6 c7 c8 c9 c10 c11 c12 c13 c14 c15 c16 c17 c18 c19 c20 c21 c22 : Value} {w0 : World} (hb : Blk w0 b 70 #[c0, c1, c2, c3, c4, c5, c6, c7, c8, c9, c10, c11, c12, c13, c14, c15, c16, c17, c18, c19, c20, c21, c22]) :
    Calls Tryz.prog 20 #[pt b, (.int .u8 v)] w0 fun e w' => e = .returned (.tuple #[]) ∧ Blk w' b 70 #[c0, c1, c2, c3, c4, c5, c6, c7, c8, c9, c10, c11, c12, c13, c14, c15, c16, c17, c18, c19, (.int .u8 v), c21, c22] ∧ w0.grownBy w' (some b) := by
  refine calls_of_wp Tryz.func20 rfl ?_
  generalize hA : Act.mk _ _ = a0
  have F0 : Fz 8 a0 := by subst hA; exact ⟨by simp [Tryz.ntmps20], rfl⟩
  have h0_0 : a0.tmps.getD 0 undef = (.pointer (some ⟨b, 0, none⟩)) := by subst hA; exact fr_arg rfl
  have h1_0 : a0.tmps.getD 1 undef = (.int .u8 v) := by subst hA; exact fr_arg rfl
  clear hA
  have Q0 := grown_refl w0 (some b)
  refine rg_list ?_
  refine wl_p (ex_mv h0_0) F0.l fun a1 u1 h4_1 => ?_
  have F1 := F0.pt u1
  refine wl_p (ex_mv (u1.w h1_0)) F1.l fun a2 u2 h5_2 => ?_
  have F2 := F1.pt u2
  refine wl_p (ex_nil (u2.w h4_1)) F2.l fun a3 u3 h6_3 => ?_
  have F3 := F2.pt u3
  refine wl_p (ex_fb 20 h6_3) F3.l fun a4 u4 h7_4 => ?_
  have F4 := F3.pt u4
  obtain ⟨w1, hr1, Bb_1, G1⟩ := st_run (T := 5) (o := 20) (v := (.int .u8 v)) (cs' := #[c0, c1, c2, c3, c4, c5, c6, c7, c8, c9, c10, c11, c12, c13, c14, c15, c16, c17, c18, c19, (.int .u8 v), c21, c22]) (fun _ => by kernel_rfl) hb rfl (by simp) rfl
  have Q1 : w0.grownBy w1 (some b) := grown_trans Q0 G1
  refine wl_n (ex_st h7_4 (u4.w (u3.w h5_2)) hr1) ?_
  clear hb
  exact bodyPost_end (v := .tuple #[]) (results_none rfl _ _ _) F4.defers ⟨rfl, Bb_1, Q1⟩
theorem version3 {b : Nat} {c0 c1 c2 c3 c4 c5 c6 c7 c8 c9 c10 c11 c12 c13 c14 c15 c16 c17 c18 c19 c21 c22 : Value} {w0 : World} (hb : Blk w0 b 70 #[c0, c1, c2, c3, c4, c5, c6, c7, c8, c9, c10, c11, c12, c13, c14, c15, c16, c17, c18, c19, (.int .u8 3), c21, c22]) :
    Calls Tryz.prog 34 #[.pointer (some ⟨b, 20, none⟩), .int .u8 3] w0 fun e w' => e = .returned (.tuple #[]) ∧ w0 = w' := by
  refine calls_of_wp Tryz.func34 rfl ?_
  generalize hA : Act.mk _ _ = a0
  have F0 : Fz 12 a0 := by subst hA; exact ⟨by simp [Tryz.ntmps34], rfl⟩
  have h0_0 : a0.tmps.getD 0 undef = (.pointer (some ⟨b, 20, none⟩)) := by subst hA; exact fr_arg rfl
  have h1_0 : a0.tmps.getD 1 undef = (.int .u8 3) := by subst hA; exact fr_arg rfl
  clear hA
  refine wp_seq ?_
  refine rg_list ?_
  refine wl_p (ex_mv h0_0) F0.l fun a1 u1 h4_1 => ?_
  have F1 := F0.pt u1
  refine wl_p (ex_nil h4_1) F1.l fun a2 u2 h5_2 => ?_
  have F2 := F1.pt u2
  refine wl_p (ex_le (v := (.int .u8 3)) h5_2 (hb.cell 20)) F2.l fun a3 u3 h6_3 => ?_
  have F3 := F2.pt u3
  have h1_3 := u3.w (u2.w (u1.w h1_0))
  refine wl_p (ex_mv h1_3) F3.l fun a4 u4 h7_4 => ?_
  have F4 := F3.pt u4
  refine wl_p (ex_bin (v := (.bool false)) (u4.w h6_3) h7_4 (by kernel_rfl)) F4.l fun a5 u5 h8_5 => ?_
  have F5 := F4.pt u5
  change Code.wp _ _ _ _ _
  refine wp_cond_false h8_5 ?_
  refine wp_skip ?_
  exact bodyPost_end (v := .tuple #[]) (results_none rfl _ _ _) F5.defers ⟨rfl, rfl⟩
theorem asint_true {b : Nat} {c0 c1 c2 c3 c4 c5 c6 c7 c8 c9 c10 c11 c12 c13 c14 c15 c16 c17 c18 c19 c21 c22 : Value} {w0 : World} (hb : Blk w0 b 70 #[c0, c1, c2, c3, c4, c5, c6, c7, c8, c9, c10, c11, c12, c13, c14, c15, c16, c17, c18, c19, (.int .u8 3), c21, c22]) :
    Calls Tryz.prog 19 #[pt b, .bool true] w0 fun e w' => e = .returned (.tuple #[]) ∧ Blk w' b 70 #[c0, c1, c2, c3, c4, c5, c6, c7, c8, c9, .bool true, c11, c12, c13, c14, c15, c16, c17, c18, c19, (.int .u8 3), c21, c22] ∧ w0.grownBy w' (some b) := by
  refine calls_of_wp Tryz.func19 rfl ?_
  generalize hA : Act.mk _ _ = a0
  have F0 : Fz 13 a0 := by subst hA; exact ⟨by simp [Tryz.ntmps19], rfl⟩
  have h0_0 : a0.tmps.getD 0 undef = (.pointer (some ⟨b, 0, none⟩)) := by subst hA; exact fr_arg rfl
  have h1_0 : a0.tmps.getD 1 undef = (.bool true) := by subst hA; exact fr_arg rfl
  clear hA
  have Q0 := grown_refl w0 (some b)
  refine wp_seq ?_
  refine wp_seq ?_
  refine rg_list ?_
  refine wl_p (ex_mv h1_0) F0.l fun a1 u1 h4_1 => ?_
  have F1 := F0.pt u1
  change Code.wp _ _ _ _ _
  refine wp_cond_true h4_1 ?_
  refine rg_list ?_
  refine wl_p (ex_mv (u1.w h0_0)) F1.l fun a2 u2 h5_2 => ?_
  have F2 := F1.pt u2
  refine wl_p (ex_nil h5_2) F2.l fun a3 u3 h6_3 => ?_
  have F3 := F2.pt u3
  refine wl_p (ex_fb 20 h6_3) F3.l fun a4 u4 h7_4 => ?_
  have F4 := F3.pt u4
  refine wl_cl (args := #[(.pointer (some ⟨b, 20, none⟩)), (.int .u8 3)]) (R := fun v w' => v = (.tuple #[]) ∧ (w0 = w')) (ex_cl (fun _ _ => by kernel_rfl) (arg2 h7_4 rfl)) ((version3 hb).mono fun _ _ h => ⟨_, h.1, rfl, h.2⟩) F4.l ?_
  rintro v w' ⟨rfl, rfl⟩
  intro a5 u5 h8_5
  have F5 := F4.pt u5
  change Code.wp _ _ _ _ _
  refine rg_list ?_
  have h0_5 := u5.w (u4.w (u3.w (u2.w (u1.w h0_0))))
  refine wl_p (ex_mv h0_5) F5.l fun a6 u6 h9_6 => ?_
  have F6 := F5.pt u6
  have h1_6 := u6.w (u5.w (u4.w (u3.w (u2.w (u1.w h1_0)))))
  refine wl_p (ex_mv h1_6) F6.l fun a7 u7 h10_7 => ?_
  have F7 := F6.pt u7
  refine wl_p (ex_nil (u7.w h9_6)) F7.l fun a8 u8 h11_8 => ?_
  have F8 := F7.pt u8
  refine wl_p (ex_fb 10 h11_8) F8.l fun a9 u9 h12_9 => ?_
  have F9 := F8.pt u9
  obtain ⟨w1, hr1, Bb_1, G1⟩ := st_run (T := 4) (o := 10) (v := (.bool true)) (cs' := #[c0, c1, c2, c3, c4, c5, c6, c7, c8, c9, (.bool true), c11, c12, c13, c14, c15, c16, c17, c18, c19, (.int .u8 3), c21, c22]) (fun _ => by kernel_rfl) hb rfl (by simp) rfl
  have Q1 : w0.grownBy w1 (some b) := grown_trans Q0 G1
  refine wl_n (ex_st h12_9 (u9.w (u8.w h10_7)) hr1) ?_
  clear hb
  exact bodyPost_end (v := .tuple #[]) (results_none rfl _ _ _) F9.defers ⟨rfl, Bb_1, Q1⟩
theorem asint_false {b : Nat} {c0 c1 c2 c3 c4 c5 c6 c7 c8 c9 c10 c11 c12 c13 c14 c15 c16 c17 c18 c19 c21 c22 : Value} {w0 : World} (hb : Blk w0 b 70 #[c0, c1, c2, c3, c4, c5, c6, c7, c8, c9, c10, c11, c12, c13, c14, c15, c16, c17, c18, c19, (.int .u8 3), c21, c22]) :
    Calls Tryz.prog 19 #[pt b, .bool false] w0 fun e w' => e = .returned (.tuple #[]) ∧ Blk w' b 70 #[c0, c1, c2, c3, c4, c5, c6, c7, c8, c9, .bool false, c11, c12, c13, c14, c15, c16, c17, c18, c19, (.int .u8 3), c21, c22] ∧ w0.grownBy w' (some b) := by
  refine calls_of_wp Tryz.func19 rfl ?_
  generalize hA : Act.mk _ _ = a0
  have F0 : Fz 13 a0 := by subst hA; exact ⟨by simp [Tryz.ntmps19], rfl⟩
  have h0_0 : a0.tmps.getD 0 undef = (.pointer (some ⟨b, 0, none⟩)) := by subst hA; exact fr_arg rfl
  have h1_0 : a0.tmps.getD 1 undef = (.bool false) := by subst hA; exact fr_arg rfl
  clear hA
  have Q0 := grown_refl w0 (some b)
  refine wp_seq ?_
  refine wp_seq ?_
  refine rg_list ?_
  refine wl_p (ex_mv h1_0) F0.l fun a1 u1 h4_1 => ?_
  have F1 := F0.pt u1
  change Code.wp _ _ _ _ _
  refine wp_cond_false h4_1 ?_
  refine wp_skip ?_
  change Code.wp _ _ _ _ _
  refine rg_list ?_
  refine wl_p (ex_mv (u1.w h0_0)) F1.l fun a2 u2 h9_2 => ?_
  have F2 := F1.pt u2
  refine wl_p (ex_mv (u2.w (u1.w h1_0))) F2.l fun a3 u3 h10_3 => ?_
  have F3 := F2.pt u3
  refine wl_p (ex_nil (u3.w h9_2)) F3.l fun a4 u4 h11_4 => ?_
  have F4 := F3.pt u4
  refine wl_p (ex_fb 10 h11_4) F4.l fun a5 u5 h12_5 => ?_
  have F5 := F4.pt u5
  obtain ⟨w1, hr1, Bb_1, G1⟩ := st_run (T := 4) (o := 10) (v := (.bool false)) (cs' := #[c0, c1, c2, c3, c4, c5, c6, c7, c8, c9, (.bool false), c11, c12, c13, c14, c15, c16, c17, c18, c19, (.int .u8 3), c21, c22]) (fun _ => by kernel_rfl) hb rfl (by simp) rfl
  have Q1 : w0.grownBy w1 (some b) := grown_trans Q0 G1
  refine wl_n (ex_st h12_5 (u5.w (u4.w h10_3)) hr1) ?_
  clear hb
  exact bodyPost_end (v := .tuple #[]) (results_none rfl _ _ _) F5.defers ⟨rfl, Bb_1, Q1⟩

/-- keys as data: none, or one -/
inductive KeySl (w : World) : Value → Option KeyD → Prop
  | nil : KeySl w (.slice none 0 0) none
  | mk {p : Nat} {k : KeyD} (h : Blk w p 99 (keyC k)) (ok : k.Ok) : KeySl w (.slice (some ⟨p, 0, none⟩) 1 1) (some k)
inductive MapSl (w : World) : Value → Option MapD → Prop
  | nil : MapSl w (.slice none 0 0) none
  | mk {p : Nat} {m : MapD} (h : Blk w p 102 (mapC m)) (ok : m.Ok) : MapSl w (.slice (some ⟨p, 0, none⟩) 1 1) (some m)
/-- a key of its own block, from lo on -/
inductive KeyP (w : World) (lo : Nat) : Option Nat → Option KeyD → Prop
  | nil : KeyP w lo none none
  | mk {p : Nat} {k : KeyD} (h : Blk w p 101 (keyC k)) (hp : lo ≤ p) (ok : k.Ok) : KeyP w lo (some p) (some k)
inductive MapP (w : World) (lo : Nat) : Option Nat → Option MapD → Prop
  | nil : MapP w lo none none
  | mk {p : Nat} {m : MapD} (h : Blk w p 103 (mapC m)) (hp : lo ≤ p) (ok : m.Ok) : MapP w lo (some p) (some m)
section
variable {w w' : World} {v : Value} {k : Option KeyD} {m : Option MapD} {lo : Nat} {kp : Option Nat}
theorem KeySl.gn (h : KeySl w v k) (hb : w.grownBy w' none) : KeySl w' v k := by
  cases h with
  | nil => exact .nil
  | mk h ok => exact .mk (h.gn hb) ok
theorem MapSl.gn (h : MapSl w v m) (hb : w.grownBy w' none) : MapSl w' v m := by
  cases h with
  | nil => exact .nil
  | mk h ok => exact .mk (h.gn hb) ok
theorem KeyP.gn (h : KeyP w lo kp k) (hb : w.grownBy w' none) : KeyP w' lo kp k := by
  cases h with
  | nil => exact .nil
  | mk h hp ok => exact .mk (h.gn hb) hp ok
theorem MapP.gn (h : MapP w lo kp m) (hb : w.grownBy w' none) : MapP w' lo kp m := by
  cases h with
  | nil => exact .nil
  | mk h hp ok => exact .mk (h.gn hb) hp ok
theorem KeyP.lo' {lo' : Nat} (h : KeyP w lo kp k) (hl : lo' ≤ lo) : KeyP w lo' kp k := by
  cases h with
  | nil => exact .nil
  | mk h hp ok => exact .mk h (by omega) ok
theorem MapP.lo' {lo' : Nat} (h : MapP w lo kp m) (hl : lo' ≤ lo) : MapP w lo' kp m := by
  cases h with
  | nil => exact .nil
  | mk h hp ok => exact .mk h (by omega) ok
end

theorem keyTo_no {w0 : World} : Calls Tryz.prog 17 #[.slice none 0 0] w0 fun e w' => ∃ kp, e = .returned (pto kp) ∧ KeyP w' w0.heap.size kp none ∧ w0.grownBy w' none := by
  refine calls_of_wp Tryz.func17 rfl ?_
  generalize hA : Act.mk _ _ = a0
  have F0 : Fz 28 a0 := by subst hA; exact ⟨by simp [Tryz.ntmps17], rfl⟩
  have h0_0 : a0.tmps.getD 0 undef = (.slice none 0 0) := by subst hA; exact fr_arg rfl
  clear hA
  refine wp_seq ?_
  refine rg_list ?_
  refine wl_p (ex_as (v := (.pointer none)) rfl) F0.l fun a1 u1 h2_1 => ?_
  have F1 := F0.pt u1
  change Code.wp _ _ _ _ _
  refine wp_seq ?_
  refine wp_seq ?_
  refine rg_list ?_
  refine wl_p (ex_mv (u1.w h0_0)) F1.l fun a2 u2 h3_2 => ?_
  have F2 := F1.pt u2
  refine wl_p (ex_bi (w' := w0) (args := #[(.slice none 0 0)]) (v := (.int .i64 0)) (arg1 h3_2) (by kernel_rfl)) F2.l fun a3 u3 h4_3 => ?_
  have F3 := F2.pt u3
  refine wl_p (ex_bin (vy := (.int .i64 0)) (v := (.bool true)) h4_3 rfl (by kernel_rfl)) F3.l fun a4 u4 h5_4 => ?_
  have F4 := F3.pt u4
  change Code.wp _ _ _ _ _
  refine wp_cond_true h5_4 ?_
  refine wp_seq ?_
  refine rg_list ?_
  refine wl_p (ex_as (v := (.pointer none)) rfl) F4.l fun a5 u5 h2_5 => ?_
  have F5 := F4.pt u5
  change Code.wp _ _ _ _ _
  refine wp_ret ?_
  try simp only [Exit.then, Exit.inBlock]
  exact bodyPost_ret (v := (.pointer none)) ((results_tmp rfl _ _ _).trans (by rw [h2_5])) F5.defers ⟨none, rfl, .nil, grown_refl _ _⟩
theorem keyTo_yes {gk : Nat} {k : KeyD} {w0 : World} (hk : Blk w0 gk 99 (keyC k)) (hok : k.Ok) : Calls Tryz.prog 17 #[.slice (some ⟨gk, 0, none⟩) 1 1] w0 fun e w' => ∃ kp, e = .returned (pto kp) ∧ KeyP w' w0.heap.size kp (some k) ∧ w0.grownBy w' none := by
  refine calls_of_wp Tryz.func17 rfl ?_
  generalize hA : Act.mk _ _ = a0
  have F0 : Fz 28 a0 := by subst hA; exact ⟨by simp [Tryz.ntmps17], rfl⟩
  have h0_0 : a0.tmps.getD 0 undef = (.slice (some ⟨gk, 0, none⟩) 1 1) := by subst hA; exact fr_arg rfl
  clear hA
  have Kp0 := Kp.refl [] w0
  refine wp_seq ?_
  refine rg_list ?_
  refine wl_p (ex_as (v := (.pointer none)) rfl) F0.l fun a1 u1 h2_1 => ?_
  have F1 := F0.pt u1
  change Code.wp _ _ _ _ _
  refine wp_seq ?_
  refine wp_seq ?_
  refine rg_list ?_
  refine wl_p (ex_mv (u1.w h0_0)) F1.l fun a2 u2 h3_2 => ?_
  have F2 := F1.pt u2
  refine wl_p (ex_bi (w' := w0) (args := #[(.slice (some ⟨gk, 0, none⟩) 1 1)]) (v := (.int .i64 1)) (arg1 h3_2) (by kernel_rfl)) F2.l fun a3 u3 h4_3 => ?_
  have F3 := F2.pt u3
  refine wl_p (ex_bin (vy := (.int .i64 0)) (v := (.bool false)) h4_3 rfl (by kernel_rfl)) F3.l fun a4 u4 h5_4 => ?_
  have F4 := F3.pt u4
  change Code.wp _ _ _ _ _
  refine wp_cond_false h5_4 ?_
  refine wp_skip ?_
  change Code.wp _ _ _ _ _
  refine wp_seq ?_
  obtain ⟨w1, hw1⟩ : ∃ w, w = w0.drew := ⟨_, rfl⟩
  have G1 : w0.grownBy w1 none := hw1 ▸ grown_drew _
  have Bk_1 := hk.gn G1
  have Kp1 := Kp0.new G1
  refine rg_stillt 20 hw1 hmix (by kernel_rfl) ?_
  clear hk
  have h0_4 := u4.w (u3.w (u2.w (u1.w h0_0)))
  refine st_p (ex_mv h0_4) F4.l fun a5 u5 h6_5 => ?_
  have F5 := F4.pt u5
  refine st_p (ex_ixg (vx := (.slice (some ⟨gk, 0, none⟩) 1 1)) (vy := (.int .i64 0)) (v := (.pointer (some ⟨gk, 0, none⟩))) h6_5 rfl (by kernel_rfl)) F5.l fun a6 u6 h7_6 => ?_
  have F6 := F5.pt u6
  refine st_p (ex_fb 0 h7_6) F6.l fun a7 u7 h8_7 => ?_
  have F7 := F6.pt u7
  refine st_p (ex_le (v := (.string k.me)) h8_7 (Bk_1.cell 0)) F7.l fun a8 u8 h9_8 => ?_
  have F8 := F7.pt u8
  have h0_8 := u8.w (u7.w (u6.w (u5.w h0_4)))
  refine st_p (ex_mv h0_8) F8.l fun a9 u9 h10_9 => ?_
  have F9 := F8.pt u9
  refine st_p (ex_ixg (vx := (.slice (some ⟨gk, 0, none⟩) 1 1)) (vy := (.int .i64 0)) (v := (.pointer (some ⟨gk, 0, none⟩))) h10_9 rfl (by kernel_rfl)) F9.l fun a10 u10 h11_10 => ?_
  have F10 := F9.pt u10
  refine st_p (ex_fb 1 h11_10) F10.l fun a11 u11 h12_11 => ?_
  have F11 := F10.pt u11
  refine st_p (ex_le (v := (.string k.uri)) h12_11 (Bk_1.cell 1)) F11.l fun a12 u12 h13_12 => ?_
  have F12 := F11.pt u12
  have h0_12 := u12.w (u11.w (u10.w (u9.w h0_8)))
  refine st_p (ex_mv h0_12) F12.l fun a13 u13 h14_13 => ?_
  have F13 := F12.pt u13
  refine st_p (ex_ixg (vx := (.slice (some ⟨gk, 0, none⟩) 1 1)) (vy := (.int .i64 0)) (v := (.pointer (some ⟨gk, 0, none⟩))) h14_13 rfl (by kernel_rfl)) F13.l fun a14 u14 h15_14 => ?_
  have F14 := F13.pt u14
  refine st_p (ex_fb 2 h15_14) F14.l fun a15 u15 h16_15 => ?_
  have F15 := F14.pt u15
  refine st_p (ex_le (v := (.string k.iv)) h16_15 (Bk_1.cell 2)) F15.l fun a16 u16 h17_16 => ?_
  have F16 := F15.pt u16
  have h0_16 := u16.w (u15.w (u14.w (u13.w h0_12)))
  refine st_p (ex_mv h0_16) F16.l fun a17 u17 h18_17 => ?_
  have F17 := F16.pt u17
  refine st_p (ex_ixg (vx := (.slice (some ⟨gk, 0, none⟩) 1 1)) (vy := (.int .i64 0)) (v := (.pointer (some ⟨gk, 0, none⟩))) h18_17 rfl (by kernel_rfl)) F17.l fun a18 u18 h19_18 => ?_
  have F18 := F17.pt u18
  refine st_p (ex_fb 3 h19_18) F18.l fun a19 u19 h20_19 => ?_
  have F19 := F18.pt u19
  refine st_p (ex_le (v := (.string k.fo)) h20_19 (Bk_1.cell 3)) F19.l fun a20 u20 h21_20 => ?_
  have F20 := F19.pt u20
  have h0_20 := u20.w (u19.w (u18.w (u17.w h0_16)))
  refine st_p (ex_mv h0_20) F20.l fun a21 u21 h22_21 => ?_
  have F21 := F20.pt u21
  refine st_p (ex_ixg (vx := (.slice (some ⟨gk, 0, none⟩) 1 1)) (vy := (.int .i64 0)) (v := (.pointer (some ⟨gk, 0, none⟩))) h22_21 rfl (by kernel_rfl)) F21.l fun a22 u22 h23_22 => ?_
  have F22 := F21.pt u22
  refine st_p (ex_fb 4 h23_22) F22.l fun a23 u23 h24_23 => ?_
  have F23 := F22.pt u23
  refine st_p (ex_le (v := (.string k.ve)) h24_23 (Bk_1.cell 4)) F23.l fun a24 u24 h25_24 => ?_
  have F24 := F23.pt u24
  have h9_24 := u24.w (u23.w (u22.w (u21.w (u20.w (u19.w (u18.w (u17.w (u16.w (u15.w (u14.w (u13.w (u12.w (u11.w (u10.w (u9.w h9_8)))))))))))))))
  have h13_24 := u24.w (u23.w (u22.w (u21.w (u20.w (u19.w (u18.w (u17.w (u16.w (u15.w (u14.w (u13.w h13_12)))))))))))
  have h17_24 := u24.w (u23.w (u22.w (u21.w (u20.w (u19.w (u18.w (u17.w h17_16)))))))
  have h21_24 := u24.w (u23.w (u22.w (u21.w h21_20)))
  refine wl_p (ex_bd (w' := w1) (vs :=  #[(0, (.string k.me)), (1, (.string k.uri)), (2, (.string k.iv)), (3, (.string k.fo)), (4, (.string k.ve))]) (v := (.agg #[(.string k.me), (.string k.uri), (.string k.iv), (.string k.fo), (.string k.ve)])) (by have e0 : a24.eval (.tmp 9) = (.string k.me) := h9_24; have e1 : a24.eval (.tmp 13) = (.string k.uri) := h13_24; have e2 : a24.eval (.tmp 17) = (.string k.iv) := h17_24; have e3 : a24.eval (.tmp 21) = (.string k.fo) := h21_24; have e4 : a24.eval (.tmp 25) = (.string k.ve) := h25_24; simp only [List.map_toArray, List.map_cons, List.map_nil, e0, e1, e2, e3, e4]) (by kernel_rfl)) F24.l fun a25 u25 h26_25 => ?_
  have F25 := F24.pt u25
  obtain ⟨gb27, hgb27⟩ : ∃ g, w1.heap.size = g := ⟨_, rfl⟩
  have ne_k_b27 : gk ≠ gb27 := by have := Bk_1.lt; omega
  have ge_b27 : w0.heap.size ≤ gb27 := by have := Kp1.size; omega
  obtain ⟨w2, hr2, Bb27_2, G2, hs2⟩ := al_run (op := Instr.box 101 (.agg #[(.string k.me), (.string k.uri), (.string k.iv), (.string k.fo), (.string k.ve)])) (T := 101) (cs := #[(.string k.me), (.string k.uri), (.string k.iv), (.string k.fo), (.string k.ve)]) hgb27 (fun _ => by kernel_rfl)
  have Bk_2 := Bk_1.gn G2
  have Kp2 := Kp1.new G2
  refine wl_p (ex_bx h26_25 hr2) F25.l fun a26 u26 (h27_26 : a26.tmps.getD 27 undef = (.pointer (some ⟨gb27, 0, none⟩))) => ?_
  have F26 := F25.pt u26
  clear hgb27
  refine wl_p (ex_as h27_26) F26.l fun a27 u27 h2_27 => ?_
  have F27 := F26.pt u27
  change Code.wp _ _ _ _ _
  refine wp_ret ?_
  try simp only [Exit.then, Exit.inBlock]
  exact bodyPost_ret (v := (.pointer (some ⟨gb27, 0, none⟩))) ((results_tmp rfl _ _ _).trans (by rw [h2_27])) F27.defers ⟨some gb27, rfl, .mk Bb27_2 ge_b27 hok, Kp2.grown⟩
theorem keyTo_any {v : Value} {k : Option KeyD} {w0 : World} (h : KeySl w0 v k) : Calls Tryz.prog 17 #[v] w0 fun e w' => ∃ kp, e = .returned (pto kp) ∧ KeyP w' w0.heap.size kp k ∧ w0.grownBy w' none := by
  cases h with
  | nil => exact keyTo_no
  | mk h ok => exact keyTo_yes h ok
theorem mapTo_no {w0 : World} : Calls Tryz.prog 18 #[.slice none 0 0] w0 fun e w' => ∃ kp, e = .returned (pto kp) ∧ MapP w' w0.heap.size kp none ∧ w0.grownBy w' none := by
  refine calls_of_wp Tryz.func18 rfl ?_
  generalize hA : Act.mk _ _ = a0
  have F0 : Fz 20 a0 := by subst hA; exact ⟨by simp [Tryz.ntmps18], rfl⟩
  have h0_0 : a0.tmps.getD 0 undef = (.slice none 0 0) := by subst hA; exact fr_arg rfl
  clear hA
  refine wp_seq ?_
  refine rg_list ?_
  refine wl_p (ex_as (v := (.pointer none)) rfl) F0.l fun a1 u1 h2_1 => ?_
  have F1 := F0.pt u1
  change Code.wp _ _ _ _ _
  refine wp_seq ?_
  refine wp_seq ?_
  refine rg_list ?_
  refine wl_p (ex_mv (u1.w h0_0)) F1.l fun a2 u2 h3_2 => ?_
  have F2 := F1.pt u2
  refine wl_p (ex_bi (w' := w0) (args := #[(.slice none 0 0)]) (v := (.int .i64 0)) (arg1 h3_2) (by kernel_rfl)) F2.l fun a3 u3 h4_3 => ?_
  have F3 := F2.pt u3
  refine wl_p (ex_bin (vy := (.int .i64 0)) (v := (.bool true)) h4_3 rfl (by kernel_rfl)) F3.l fun a4 u4 h5_4 => ?_
  have F4 := F3.pt u4
  change Code.wp _ _ _ _ _
  refine wp_cond_true h5_4 ?_
  refine wp_seq ?_
  refine rg_list ?_
  refine wl_p (ex_as (v := (.pointer none)) rfl) F4.l fun a5 u5 h2_5 => ?_
  have F5 := F4.pt u5
  change Code.wp _ _ _ _ _
  refine wp_ret ?_
  try simp only [Exit.then, Exit.inBlock]
  exact bodyPost_ret (v := (.pointer none)) ((results_tmp rfl _ _ _).trans (by rw [h2_5])) F5.defers ⟨none, rfl, .nil, grown_refl _ _⟩
theorem mapTo_yes {gk : Nat} {k : MapD} {w0 : World} (hk : Blk w0 gk 102 (mapC k)) (hok : k.Ok) : Calls Tryz.prog 18 #[.slice (some ⟨gk, 0, none⟩) 1 1] w0 fun e w' => ∃ kp, e = .returned (pto kp) ∧ MapP w' w0.heap.size kp (some k) ∧ w0.grownBy w' none := by
  refine calls_of_wp Tryz.func18 rfl ?_
  generalize hA : Act.mk _ _ = a0
  have F0 : Fz 20 a0 := by subst hA; exact ⟨by simp [Tryz.ntmps18], rfl⟩
  have h0_0 : a0.tmps.getD 0 undef = (.slice (some ⟨gk, 0, none⟩) 1 1) := by subst hA; exact fr_arg rfl
  clear hA
  have Kp0 := Kp.refl [] w0
  refine wp_seq ?_
  refine rg_list ?_
  refine wl_p (ex_as (v := (.pointer none)) rfl) F0.l fun a1 u1 h2_1 => ?_
  have F1 := F0.pt u1
  change Code.wp _ _ _ _ _
  refine wp_seq ?_
  refine wp_seq ?_
  refine rg_list ?_
  refine wl_p (ex_mv (u1.w h0_0)) F1.l fun a2 u2 h3_2 => ?_
  have F2 := F1.pt u2
  refine wl_p (ex_bi (w' := w0) (args := #[(.slice (some ⟨gk, 0, none⟩) 1 1)]) (v := (.int .i64 1)) (arg1 h3_2) (by kernel_rfl)) F2.l fun a3 u3 h4_3 => ?_
  have F3 := F2.pt u3
  refine wl_p (ex_bin (vy := (.int .i64 0)) (v := (.bool false)) h4_3 rfl (by kernel_rfl)) F3.l fun a4 u4 h5_4 => ?_
  have F4 := F3.pt u4
  change Code.wp _ _ _ _ _
  refine wp_cond_false h5_4 ?_
  refine wp_skip ?_
  change Code.wp _ _ _ _ _
  refine wp_seq ?_
  obtain ⟨w1, hw1⟩ : ∃ w, w = w0.drew := ⟨_, rfl⟩
  have G1 : w0.grownBy w1 none := hw1 ▸ grown_drew _
  have Bk_1 := hk.gn G1
  have Kp1 := Kp0.new G1
  refine rg_stillt 12 hw1 hmix (by kernel_rfl) ?_
  clear hk
  have h0_4 := u4.w (u3.w (u2.w (u1.w h0_0)))
  refine st_p (ex_mv h0_4) F4.l fun a5 u5 h6_5 => ?_
  have F5 := F4.pt u5
  refine st_p (ex_ixg (vx := (.slice (some ⟨gk, 0, none⟩) 1 1)) (vy := (.int .i64 0)) (v := (.pointer (some ⟨gk, 0, none⟩))) h6_5 rfl (by kernel_rfl)) F5.l fun a6 u6 h7_6 => ?_
  have F6 := F5.pt u6
  refine st_p (ex_fb 0 h7_6) F6.l fun a7 u7 h8_7 => ?_
  have F7 := F6.pt u7
  refine st_p (ex_le (v := (.string k.uri)) h8_7 (Bk_1.cell 0)) F7.l fun a8 u8 h9_8 => ?_
  have F8 := F7.pt u8
  have h0_8 := u8.w (u7.w (u6.w (u5.w h0_4)))
  refine st_p (ex_mv h0_8) F8.l fun a9 u9 h10_9 => ?_
  have F9 := F8.pt u9
  refine st_p (ex_ixg (vx := (.slice (some ⟨gk, 0, none⟩) 1 1)) (vy := (.int .i64 0)) (v := (.pointer (some ⟨gk, 0, none⟩))) h10_9 rfl (by kernel_rfl)) F9.l fun a10 u10 h11_10 => ?_
  have F10 := F9.pt u10
  refine st_p (ex_fb 1 h11_10) F10.l fun a11 u11 h12_11 => ?_
  have F11 := F10.pt u11
  refine st_p (ex_le (v := (.int .i64 k.li)) h12_11 (Bk_1.cell 1)) F11.l fun a12 u12 h13_12 => ?_
  have F12 := F11.pt u12
  have h0_12 := u12.w (u11.w (u10.w (u9.w h0_8)))
  refine st_p (ex_mv h0_12) F12.l fun a13 u13 h14_13 => ?_
  have F13 := F12.pt u13
  refine st_p (ex_ixg (vx := (.slice (some ⟨gk, 0, none⟩) 1 1)) (vy := (.int .i64 0)) (v := (.pointer (some ⟨gk, 0, none⟩))) h14_13 rfl (by kernel_rfl)) F13.l fun a14 u14 h15_14 => ?_
  have F14 := F13.pt u14
  refine st_p (ex_fb 2 h15_14) F14.l fun a15 u15 h16_15 => ?_
  have F15 := F14.pt u15
  refine st_p (ex_le (v := (.int .i64 k.off)) h16_15 (Bk_1.cell 2)) F15.l fun a16 u16 h17_16 => ?_
  have F16 := F15.pt u16
  have h9_16 := u16.w (u15.w (u14.w (u13.w (u12.w (u11.w (u10.w (u9.w h9_8)))))))
  have h13_16 := u16.w (u15.w (u14.w (u13.w h13_12)))
  refine wl_p (ex_bd (w' := w1) (vs :=  #[(0, (.string k.uri)), (1, (.int .i64 k.li)), (2, (.int .i64 k.off))]) (v := (.agg #[(.string k.uri), (.int .i64 k.li), (.int .i64 k.off)])) (by have e0 : a16.eval (.tmp 9) = (.string k.uri) := h9_16; have e1 : a16.eval (.tmp 13) = (.int .i64 k.li) := h13_16; have e2 : a16.eval (.tmp 17) = (.int .i64 k.off) := h17_16; simp only [List.map_toArray, List.map_cons, List.map_nil, e0, e1, e2]) (by kernel_rfl)) F16.l fun a17 u17 h18_17 => ?_
  have F17 := F16.pt u17
  obtain ⟨gb19, hgb19⟩ : ∃ g, w1.heap.size = g := ⟨_, rfl⟩
  have ne_k_b19 : gk ≠ gb19 := by have := Bk_1.lt; omega
  have ge_b19 : w0.heap.size ≤ gb19 := by have := Kp1.size; omega
  obtain ⟨w2, hr2, Bb19_2, G2, hs2⟩ := al_run (op := Instr.box 103 (.agg #[(.string k.uri), (.int .i64 k.li), (.int .i64 k.off)])) (T := 103) (cs := #[(.string k.uri), (.int .i64 k.li), (.int .i64 k.off)]) hgb19 (fun _ => by kernel_rfl)
  have Bk_2 := Bk_1.gn G2
  have Kp2 := Kp1.new G2
  refine wl_p (ex_bx h18_17 hr2) F17.l fun a18 u18 (h19_18 : a18.tmps.getD 19 undef = (.pointer (some ⟨gb19, 0, none⟩))) => ?_
  have F18 := F17.pt u18
  clear hgb19
  refine wl_p (ex_as h19_18) F18.l fun a19 u19 h2_19 => ?_
  have F19 := F18.pt u19
  change Code.wp _ _ _ _ _
  refine wp_ret ?_
  try simp only [Exit.then, Exit.inBlock]
  exact bodyPost_ret (v := (.pointer (some ⟨gb19, 0, none⟩))) ((results_tmp rfl _ _ _).trans (by rw [h2_19])) F19.defers ⟨some gb19, rfl, .mk Bb19_2 ge_b19 hok, Kp2.grown⟩
theorem mapTo_any {v : Value} {k : Option MapD} {w0 : World} (h : MapSl w0 v k) : Calls Tryz.prog 18 #[v] w0 fun e w' => ∃ kp, e = .returned (pto kp) ∧ MapP w' w0.heap.size kp k ∧ w0.grownBy w' none := by
  cases h with
  | nil => exact mapTo_no
  | mk h ok => exact mapTo_yes h ok
theorem cueTo_no {w0 : World} : Calls Tryz.prog 33 #[.slice none 0 0] w0 fun e w' => e = .returned (.pointer none) ∧ w0 = w' := by
  refine calls_of_wp Tryz.func33 rfl ?_
  generalize hA : Act.mk _ _ = a0
  have F0 : Fz 26 a0 := by subst hA; exact ⟨by simp [Tryz.ntmps33], rfl⟩
  have h0_0 : a0.tmps.getD 0 undef = (.slice none 0 0) := by subst hA; exact fr_arg rfl
  clear hA
  refine wp_seq ?_
  refine rg_list ?_
  refine wl_p (ex_as (v := (.pointer none)) rfl) F0.l fun a1 u1 h2_1 => ?_
  have F1 := F0.pt u1
  change Code.wp _ _ _ _ _
  refine wp_seq ?_
  refine wp_seq ?_
  refine rg_list ?_
  refine wl_p (ex_mv (u1.w h0_0)) F1.l fun a2 u2 h4_2 => ?_
  have F2 := F1.pt u2
  refine wl_p (ex_bi (w' := w0) (args := #[(.slice none 0 0)]) (v := (.int .i64 0)) (arg1 h4_2) (by kernel_rfl)) F2.l fun a3 u3 h5_3 => ?_
  have F3 := F2.pt u3
  refine wl_p (ex_bin (vy := (.int .i64 0)) (v := (.bool true)) h5_3 rfl (by kernel_rfl)) F3.l fun a4 u4 h6_4 => ?_
  have F4 := F3.pt u4
  change Code.wp _ _ _ _ _
  refine wp_cond_true h6_4 ?_
  refine wp_seq ?_
  refine rg_list ?_
  refine wl_p (ex_as (v := (.pointer none)) rfl) F4.l fun a5 u5 h2_5 => ?_
  have F5 := F4.pt u5
  change Code.wp _ _ _ _ _
  refine wp_ret ?_
  try simp only [Exit.then, Exit.inBlock]
  exact bodyPost_ret (v := (.pointer none)) ((results_tmp rfl _ _ _).trans (by rw [h2_5])) F5.defers ⟨rfl, rfl⟩
/-- a segment as data -/
def segD (num : Nat) (s : SegD) (kv mv : Value) : Array Value := #[(.int .u64 num), (.string s.title), (.string s.uri), (.float .f64 (fb s.e)), (.int .i64 s.li), (.int .i64 s.off), kv, mv, (.slice none 0 0), (.bool s.disc), (.string s.date)]
theorem segmentTo_any {num : Nat} {s : SegD} {kv mv : Value} {w0 : World} (hks : KeySl w0 kv s.key) (hms : MapSl w0 mv s.map) :
    Calls Tryz.prog 16 #[.agg (segD num s kv mv)] w0 fun e w' => ∃ q kp mp, e = .returned (pt q) ∧ Blk w' q 96 (segC 0 s kp mp) ∧ KeyP w' w0.heap.size kp s.key ∧ MapP w' w0.heap.size mp s.map ∧ w0.heap.size ≤ q ∧ w0.grownBy w' none := by
  refine calls_of_wp Tryz.func16 rfl ?_
  generalize hA : Act.mk _ _ = a0
  have F0 : Fz 28 a0 := by subst hA; exact ⟨by simp [Tryz.ntmps16], rfl⟩
  have h0_0 : a0.tmps.getD 0 undef = (.agg #[(.int .u64 num), (.string s.title), (.string s.uri), (.float .f64 (fb s.e)), (.int .i64 s.li), (.int .i64 s.off), kv, mv, (.slice none 0 0), (.bool s.disc), (.string s.date)]) := by subst hA; exact fr_arg rfl
  clear hA
  have Kp0 := Kp.refl [] w0
  have ks_0 := hks
  have ms_0 := hms
  refine wp_seq ?_
  refine rg_list ?_
  obtain ⟨gx, hgx⟩ : ∃ g, w0.heap.size = g := ⟨_, rfl⟩
  have ge_x : w0.heap.size ≤ gx := by have := Kp0.size; omega
  obtain ⟨w1, hr1, Bx_1, G1, hs1⟩ := al_run (op := Instr.box 30 (.agg #[(.int .u64 num), (.string s.title), (.string s.uri), (.float .f64 (fb s.e)), (.int .i64 s.li), (.int .i64 s.off), kv, mv, (.slice none 0 0), (.bool s.disc), (.string s.date)])) (T := 30) (cs := #[(.int .u64 num), (.string s.title), (.string s.uri), (.float .f64 (fb s.e)), (.int .i64 s.li), (.int .i64 s.off), kv, mv, (.slice none 0 0), (.bool s.disc), (.string s.date)]) hgx (fun _ => by kernel_rfl)
  have Kp1 := Kp0.new G1
  have ks_1 := ks_0.gn G1
  have ms_1 := ms_0.gn G1
  refine wl_p (ex_bx h0_0 hr1) F0.l fun a1 u1 (h1_1 : a1.tmps.getD 1 undef = (.pointer (some ⟨gx, 0, none⟩))) => ?_
  have F1 := F0.pt u1
  clear hgx
  refine wl_p (ex_as (v := (.pointer none)) rfl) F1.l fun a2 u2 h2_2 => ?_
  have F2 := F1.pt u2
  change Code.wp _ _ _ _ _
  refine wp_seq ?_
  obtain ⟨w2, hw2⟩ : ∃ w, w = w1.drew := ⟨_, rfl⟩
  have G2 : w1.grownBy w2 none := hw2 ▸ grown_drew _
  have Bx_2 := Bx_1.gn G2
  have Kp2 := Kp1.new G2
  have ks_2 := ks_1.gn G2
  have ms_2 := ms_1.gn G2
  refine rg_ord (S := fun w' => Blk w' gx 30 #[(.int .u64 num), (.string s.title), (.string s.uri), (.float .f64 (fb s.e)), (.int .i64 s.li), (.int .i64 s.off), kv, mv, (.slice none 0 0), (.bool s.disc), (.string s.date)]) [0, 1, 2, 3, 4, 5, 6, 7, 8, 9, 10, 11, 13, 14, 16, 17, 19, 20, 21, 22] [12, 15, 18, 23, 24, 25] ⟨rfl, by decide⟩ hmix (by kernel_rfl) (by rw [show w1.drew = w2 from hw2.symm]; exact Bx_2) ?_
  rw [show w1.drew = w2 from hw2.symm]
  refine mh_p (fun w hw => ex_fb 1 (u2.w h1_1)) F2.l fun a3 u3 h3_3 => ?_
  have F3 := F2.pt u3
  refine mh_p (fun w hw => ex_le (v := (.string s.title)) h3_3 (hw.cell 1)) F3.l fun a4 u4 h4_4 => ?_
  have F4 := F3.pt u4
  have h1_4 := u4.w (u3.w (u2.w h1_1))
  refine mh_p (fun w hw => ex_fb 2 h1_4) F4.l fun a5 u5 h5_5 => ?_
  have F5 := F4.pt u5
  refine mh_p (fun w hw => ex_le (v := (.string s.uri)) h5_5 (hw.cell 2)) F5.l fun a6 u6 h6_6 => ?_
  have F6 := F5.pt u6
  refine mh_p (fun w hw => ex_fb 3 (u6.w (u5.w h1_4))) F6.l fun a7 u7 h7_7 => ?_
  have F7 := F6.pt u7
  refine mh_p (fun w hw => ex_le (v := (.float .f64 (fb s.e))) h7_7 (hw.cell 3)) F7.l fun a8 u8 h8_8 => ?_
  have F8 := F7.pt u8
  have h1_8 := u8.w (u7.w (u6.w (u5.w h1_4)))
  refine mh_p (fun w hw => ex_fb 4 h1_8) F8.l fun a9 u9 h9_9 => ?_
  have F9 := F8.pt u9
  refine mh_p (fun w hw => ex_le (v := (.int .i64 s.li)) h9_9 (hw.cell 4)) F9.l fun a10 u10 h10_10 => ?_
  have F10 := F9.pt u10
  refine mh_p (fun w hw => ex_fb 5 (u10.w (u9.w h1_8))) F10.l fun a11 u11 h11_11 => ?_
  have F11 := F10.pt u11
  refine mh_p (fun w hw => ex_le (v := (.int .i64 s.off)) h11_11 (hw.cell 5)) F11.l fun a12 u12 h12_12 => ?_
  have F12 := F11.pt u12
  have h1_12 := u12.w (u11.w (u10.w (u9.w h1_8)))
  refine mh_p (fun w hw => ex_fb 6 h1_12) F12.l fun a13 u13 h13_13 => ?_
  have F13 := F12.pt u13
  refine mh_p (fun w hw => ex_le (v := kv) h13_13 (hw.cell 6)) F13.l fun a14 u14 h14_14 => ?_
  have F14 := F13.pt u14
  refine mh_p (fun w hw => ex_fb 7 (u14.w (u13.w h1_12))) F14.l fun a15 u15 h16_15 => ?_
  have F15 := F14.pt u15
  refine mh_p (fun w hw => ex_le (v := mv) h16_15 (hw.cell 7)) F15.l fun a16 u16 h17_16 => ?_
  have F16 := F15.pt u16
  have h1_16 := u16.w (u15.w (u14.w (u13.w h1_12)))
  refine mh_p (fun w hw => ex_fb 8 h1_16) F16.l fun a17 u17 h19_17 => ?_
  have F17 := F16.pt u17
  refine mh_p (fun w hw => ex_le (v := (.slice none 0 0)) h19_17 (hw.cell 8)) F17.l fun a18 u18 h20_18 => ?_
  have F18 := F17.pt u18
  refine mh_p (fun w hw => ex_fb 9 (u18.w (u17.w h1_16))) F18.l fun a19 u19 h22_19 => ?_
  have F19 := F18.pt u19
  refine mh_p (fun w hw => ex_le (v := (.bool s.disc)) h22_19 (hw.cell 9)) F19.l fun a20 u20 h23_20 => ?_
  have F20 := F19.pt u20
  have h1_20 := u20.w (u19.w (u18.w (u17.w h1_16)))
  refine mh_p (fun w hw => ex_fb 10 h1_20) F20.l fun a21 u21 h24_21 => ?_
  have F21 := F20.pt u21
  refine mh_p (fun w hw => ex_le (v := (.string s.date)) h24_21 (hw.cell 10)) F21.l fun a22 u22 h25_22 => ?_
  have F22 := F21.pt u22
  have h14_22 := u22.w (u21.w (u20.w (u19.w (u18.w (u17.w (u16.w (u15.w h14_14)))))))
  refine mt_cl (args := #[kv]) (R := fun v w' => ∃ kp, v = pto kp ∧ KeyP w' w2.heap.size kp s.key ∧ w2.grownBy w' none) (ex_cl (fun _ _ => by kernel_rfl) (arg1 h14_22)) ((keyTo_any ks_2).mono fun _ _ ⟨kp, h⟩ => ⟨_, h.1, kp, rfl, h.2⟩) F22.l ?_
  rintro v w3 ⟨kp, rfl, kk_3, G3⟩
  replace kk_3 := kk_3.lo' Kp2.size
  have Bx_3 := Bx_2.gn G3
  have Kp3 := Kp2.new G3
  have ks_3 := ks_2.gn G3
  have ms_3 := ms_2.gn G3
  refine ⟨Bx_3, ?_⟩
  intro a23 u23 h15_23
  have F23 := F22.pt u23
  have h17_23 := u23.w (u22.w (u21.w (u20.w (u19.w (u18.w (u17.w h17_16))))))
  refine mt_cl (args := #[mv]) (R := fun v w' => ∃ kp, v = pto kp ∧ MapP w' w3.heap.size kp s.map ∧ w3.grownBy w' none) (ex_cl (fun _ _ => by kernel_rfl) (arg1 h17_23)) ((mapTo_any ms_3).mono fun _ _ ⟨kp, h⟩ => ⟨_, h.1, kp, rfl, h.2⟩) F23.l ?_
  rintro v w4 ⟨mp, rfl, mm_4, G4⟩
  replace mm_4 := mm_4.lo' Kp3.size
  have Bx_4 := Bx_3.gn G4
  have Kp4 := Kp3.new G4
  have ks_4 := ks_3.gn G4
  have ms_4 := ms_3.gn G4
  have kk_4 := kk_3.gn G4
  refine ⟨Bx_4, ?_⟩
  intro a24 u24 h18_24
  have F24 := F23.pt u24
  clear kk_3
  have h20_24 := u24.w (u23.w (u22.w (u21.w (u20.w (u19.w h20_18)))))
  refine mt_cl (args := #[(.slice none 0 0)]) (R := fun v w' => v = (.pointer none) ∧ (w4 = w')) (ex_cl (fun _ _ => by kernel_rfl) (arg1 h20_24)) ((cueTo_no).mono fun _ _ h => ⟨_, h.1, rfl, h.2⟩) F24.l ?_
  rintro v w' ⟨rfl, rfl⟩
  refine ⟨Bx_4, ?_⟩
  intro a25 u25 h21_25
  have F25 := F24.pt u25
  have h4_25 := u25.w (u24.w (u23.w (u22.w (u21.w (u20.w (u19.w (u18.w (u17.w (u16.w (u15.w (u14.w (u13.w (u12.w (u11.w (u10.w (u9.w (u8.w (u7.w (u6.w (u5.w h4_4))))))))))))))))))))
  have h6_25 := u25.w (u24.w (u23.w (u22.w (u21.w (u20.w (u19.w (u18.w (u17.w (u16.w (u15.w (u14.w (u13.w (u12.w (u11.w (u10.w (u9.w (u8.w (u7.w h6_6))))))))))))))))))
  have h8_25 := u25.w (u24.w (u23.w (u22.w (u21.w (u20.w (u19.w (u18.w (u17.w (u16.w (u15.w (u14.w (u13.w (u12.w (u11.w (u10.w (u9.w h8_8))))))))))))))))
  have h10_25 := u25.w (u24.w (u23.w (u22.w (u21.w (u20.w (u19.w (u18.w (u17.w (u16.w (u15.w (u14.w (u13.w (u12.w (u11.w h10_10))))))))))))))
  have h12_25 := u25.w (u24.w (u23.w (u22.w (u21.w (u20.w (u19.w (u18.w (u17.w (u16.w (u15.w (u14.w (u13.w h12_12))))))))))))
  have h23_25 := u25.w (u24.w (u23.w (u22.w (u21.w h23_20))))
  have h25_25 := u25.w (u24.w (u23.w h25_22))
  refine mt_p (ex_bd (w' := w4) (vs :=  #[(1, (.string s.title)), (2, (.string s.uri)), (3, (.float .f64 (fb s.e))), (4, (.int .i64 s.li)), (5, (.int .i64 s.off)), (6, (pto kp)), (7, (pto mp)), (9, (.pointer none)), (8, (.bool s.disc)), (10, (.string s.date))]) (v := (.agg #[(.int .u64 0), (.string s.title), (.string s.uri), (.float .f64 (fb s.e)), (.int .i64 s.li), (.int .i64 s.off), (pto kp), (pto mp), (.bool s.disc), (.pointer none), (.string s.date)])) (by have e1 : a25.eval (.tmp 4) = (.string s.title) := h4_25; have e2 : a25.eval (.tmp 6) = (.string s.uri) := h6_25; have e3 : a25.eval (.tmp 8) = (.float .f64 (fb s.e)) := h8_25; have e4 : a25.eval (.tmp 10) = (.int .i64 s.li) := h10_25; have e5 : a25.eval (.tmp 12) = (.int .i64 s.off) := h12_25; have e6 : a25.eval (.tmp 15) = (pto kp) := (u25.w (u24.w h15_23)); have e7 : a25.eval (.tmp 18) = (pto mp) := (u25.w h18_24); have e9 : a25.eval (.tmp 21) = (.pointer none) := h21_25; have e8 : a25.eval (.tmp 23) = (.bool s.disc) := h23_25; have e10 : a25.eval (.tmp 25) = (.string s.date) := h25_25; simp only [List.map_toArray, List.map_cons, List.map_nil, e1, e2, e3, e4, e5, e6, e7, e9, e8, e10]) (by kernel_rfl)) (Bx_4) F25.l fun a26 u26 h26_26 => ?_
  have F26 := F25.pt u26
  obtain ⟨gq, hgq⟩ : ∃ g, w4.heap.size = g := ⟨_, rfl⟩
  have ne_x_q : gx ≠ gq := by have := Bx_4.lt; omega
  have ge_q : w0.heap.size ≤ gq := by have := Kp4.size; omega
  obtain ⟨w5, hr5, Bq_5, G5, hs5⟩ := al_run (op := Instr.box 96 (.agg #[(.int .u64 0), (.string s.title), (.string s.uri), (.float .f64 (fb s.e)), (.int .i64 s.li), (.int .i64 s.off), (pto kp), (pto mp), (.bool s.disc), (.pointer none), (.string s.date)])) (T := 96) (cs := #[(.int .u64 0), (.string s.title), (.string s.uri), (.float .f64 (fb s.e)), (.int .i64 s.li), (.int .i64 s.off), (pto kp), (pto mp), (.bool s.disc), (.pointer none), (.string s.date)]) hgq (fun _ => by kernel_rfl)
  have Bx_5 := Bx_4.gn G5
  have Kp5 := Kp4.new G5
  have ks_5 := ks_4.gn G5
  have ms_5 := ms_4.gn G5
  have kk_5 := kk_4.gn G5
  have mm_5 := mm_4.gn G5
  refine mt_p (ex_bx h26_26 hr5) (Bx_5) F26.l fun a27 u27 (h27_27 : a27.tmps.getD 27 undef = (.pointer (some ⟨gq, 0, none⟩))) => ?_
  have F27 := F26.pt u27
  clear kk_4 mm_4 hgq
  refine mt_p (ex_as h27_27) (Bx_5) F27.l fun a28 u28 h2_28 => ?_
  have F28 := F27.pt u28
  change Code.wp _ _ _ _ _
  refine wp_ret ?_
  try simp only [Exit.then, Exit.inBlock]
  exact bodyPost_ret (v := (.pointer (some ⟨gq, 0, none⟩))) ((results_tmp rfl _ _ _).trans (by rw [h2_28])) F28.defers ⟨gq, kp, mp, rfl, Bq_5, kk_5, mm_5, ge_q, Kp5.grown⟩
end Go.Proofs.YtlphcidpaidclaaGreatDoor
