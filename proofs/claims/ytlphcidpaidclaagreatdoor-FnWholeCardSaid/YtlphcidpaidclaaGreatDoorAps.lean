/-
  AppendSegment.
-/
import Derived.Test.YtlphcidpaidclaaGreatDoorNew
namespace Go.Proofs.YtlphcidpaidclaaGreatDoor
open Go.RowKit
set_option maxRecDepth 100000
section
variable {x y : Operand}
theorem bo_lssf (m n : Nat) (w : World) : (do eqGuard .lss 24 x y (.float .f64 m) (.float .f64 n); binOp .lss 24 (.float .f64 m) (.float .f64 n) : Sem Value).run Tryz.prog w = .ok (.bool (FloatKind.f64.format.order m n == some .lt)) w := by
  simp [go_sem]
theorem bo_add64 (m n : Int) (w : World) (h0 : 0 ≤ m + n) (h1 : m + n < 18446744073709551616) : (do eqGuard .add 25 x y (.int .u64 m) (.int .u64 n); binOp .add 25 (.int .u64 m) (.int .u64 n) : Sem Value).run Tryz.prog w = .ok (.int .u64 (m + n)) w := by
  simp [go_sem]
  rw [IntKind.wrap_u64]; omega
end

theorem app_first {b g q cap seq x y : Nat} {arr : Array Value} {c3 c4 c5 c6 c7 c8 c9 c10 c11 c12 c20 c21 c22 s0 s1 s2 s4 s5 s6 s7 s8 s9 s10 : Value} {w0 : World} (hb : Blk w0 b 70 #[(.float .f64 x), (.int .u64 seq), (.slice (some ⟨g, 0, none⟩) cap cap), c3, c4, c5, c6, c7, c8, c9, c10, c11, c12, (.int .u64 cap), (.int .u64 0), (.int .u64 0), (.int .u64 0), (.slice none 0 0), (.int .i64 0), (.int .i8 0), c20, c21, c22]) (hg : Blk w0 g 74 arr) (hq : Blk w0 q 96 #[s0, s1, s2, (.float .f64 y), s4, s5, s6, s7, s8, s9, s10]) (hgb : g ≠ b) (hqb : q ≠ b) (hgq : g ≠ q) (hc0 : 0 < cap) (hc1 : cap ≤ 1024) (hin : 0 < arr.size) (hord : (FloatKind.f64.format.order x y == some .lt) = false) :
    Calls Tryz.prog 15 #[pt b, pt q] w0 fun e w' => e = .returned .nilIface ∧ Blk w' b 70 #[(.float .f64 x), (.int .u64 seq), (.slice (some ⟨g, 0, none⟩) cap cap), c3, c4, c5, c6, c7, c8, c9, c10, c11, c12, (.int .u64 cap), (.int .u64 0), (.int .u64 (((0 : Int) + 1) % cap)), (.int .u64 (0 + 1)), (.slice none 0 0), (.int .i64 0), (.int .i8 0), c20, c21, c22] ∧ Blk w' g 74 (arr.setIfInBounds 0 (.pointer (some ⟨q, 0, none⟩))) ∧ Blk w' q 96 #[(.int .u64 seq), s1, s2, (.float .f64 y), s4, s5, s6, s7, s8, s9, s10] ∧ Kp [b, g, q] w0 w' := by
  refine calls_of_wp Tryz.func15 rfl ?_
  generalize hA : Act.mk _ _ = a0
  have F0 : Fz 113 a0 := by subst hA; exact ⟨by simp [Tryz.ntmps15], rfl⟩
  have h0_0 : a0.tmps.getD 0 undef = (.pointer (some ⟨b, 0, none⟩)) := by subst hA; exact fr_arg rfl
  have h1_0 : a0.tmps.getD 1 undef = (.pointer (some ⟨q, 0, none⟩)) := by subst hA; exact fr_arg rfl
  clear hA
  have Kp0 := Kp.refl [b, g, q] w0
  refine wp_seq ?_
  refine rg_list ?_
  refine wl_p (ex_as (v := .nilIface) rfl) (by rw [F0.size]; decide) fun a1 u1 (h4_1 : a1.tmps.getD 4 undef = .nilIface) => ?_
  have F1 := F0.pt u1
  have h0_1 := u1.v 0 h0_0 (by decide)
  have h1_1 := u1.v 1 h1_0 (by decide)
  clear h0_0 h1_0 u1 F0
  change Code.wp _ _ _ _ _
  refine wp_seq ?_
  refine wp_seq ?_
  obtain ⟨w1, hw1⟩ : ∃ w, w = w0.drew := ⟨_, rfl⟩
  have G1 : w0.grownBy w1 none := hw1 ▸ grown_drew _
  have Bb_1 := hb.gn G1
  have Bg_1 := hg.gn G1
  have Bq_1 := hq.gn G1
  have Kp1 := Kp0.new G1
  refine rg_still hw1 hmix (by kernel_rfl) ?_
  clear hb hg hq Kp0 hw1 G1
  refine st_p (ex_mv (v := (.pointer (some ⟨b, 0, none⟩))) h0_1) (by rw [F1.size]; decide) fun a2 u2 (h5_2 : a2.tmps.getD 5 undef = (.pointer (some ⟨b, 0, none⟩))) => ?_
  have F2 := F1.pt u2
  have h0_2 := u2.v 0 h0_1 (by decide)
  have h1_2 := u2.v 1 h1_1 (by decide)
  have h4_2 := u2.v 4 h4_1 (by decide)
  clear h0_1 h1_1 h4_1 u2 F1
  refine st_p (ex_nil (ad := ⟨b, 0, none⟩) h5_2) (by rw [F2.size]; decide) fun a3 u3 (h6_3 : a3.tmps.getD 6 undef = (.pointer (some ⟨b, 0, none⟩))) => ?_
  have F3 := F2.pt u3
  have h0_3 := u3.v 0 h0_2 (by decide)
  have h1_3 := u3.v 1 h1_2 (by decide)
  have h4_3 := u3.v 4 h4_2 (by decide)
  clear h0_2 h1_2 h4_2 h5_2 u3 F2
  refine st_p (ex_fa (T := 70) (f := 14) (k := 14) (b := b) (fun _ _ => by kernel_rfl) h6_3) (by rw [F3.size]; decide) fun a4 u4 (h7_4 : a4.tmps.getD 7 undef = (.pointer (some ⟨b, 14, none⟩))) => ?_
  have F4 := F3.pt u4
  have h0_4 := u4.v 0 h0_3 (by decide)
  have h1_4 := u4.v 1 h1_3 (by decide)
  have h4_4 := u4.v 4 h4_3 (by decide)
  clear h0_3 h1_3 h4_3 h6_3 u4 F3
  refine st_p (ex_ld (v := (.int .u64 0)) (ad := ⟨b, 14, none⟩) (fun _ => by kernel_rfl) h7_4 (Bb_1.cell 14)) (by rw [F4.size]; decide) fun a5 u5 (h8_5 : a5.tmps.getD 8 undef = (.int .u64 0)) => ?_
  have F5 := F4.pt u5
  have h0_5 := u5.v 0 h0_4 (by decide)
  have h1_5 := u5.v 1 h1_4 (by decide)
  have h4_5 := u5.v 4 h4_4 (by decide)
  clear h0_4 h1_4 h4_4 h7_4 u5 F4
  refine st_p (ex_mv (v := (.pointer (some ⟨b, 0, none⟩))) h0_5) (by rw [F5.size]; decide) fun a6 u6 (h9_6 : a6.tmps.getD 9 undef = (.pointer (some ⟨b, 0, none⟩))) => ?_
  have F6 := F5.pt u6
  have h0_6 := u6.v 0 h0_5 (by decide)
  have h1_6 := u6.v 1 h1_5 (by decide)
  have h4_6 := u6.v 4 h4_5 (by decide)
  have h8_6 := u6.v 8 h8_5 (by decide)
  clear h0_5 h1_5 h4_5 h8_5 u6 F5
  refine st_p (ex_nil (ad := ⟨b, 0, none⟩) h9_6) (by rw [F6.size]; decide) fun a7 u7 (h10_7 : a7.tmps.getD 10 undef = (.pointer (some ⟨b, 0, none⟩))) => ?_
  have F7 := F6.pt u7
  have h0_7 := u7.v 0 h0_6 (by decide)
  have h1_7 := u7.v 1 h1_6 (by decide)
  have h4_7 := u7.v 4 h4_6 (by decide)
  have h8_7 := u7.v 8 h8_6 (by decide)
  clear h0_6 h1_6 h4_6 h8_6 h9_6 u7 F6
  refine st_p (ex_fa (T := 70) (f := 15) (k := 15) (b := b) (fun _ _ => by kernel_rfl) h10_7) (by rw [F7.size]; decide) fun a8 u8 (h11_8 : a8.tmps.getD 11 undef = (.pointer (some ⟨b, 15, none⟩))) => ?_
  have F8 := F7.pt u8
  have h0_8 := u8.v 0 h0_7 (by decide)
  have h1_8 := u8.v 1 h1_7 (by decide)
  have h4_8 := u8.v 4 h4_7 (by decide)
  have h8_8 := u8.v 8 h8_7 (by decide)
  clear h0_7 h1_7 h4_7 h8_7 h10_7 u8 F7
  refine st_p (ex_ld (v := (.int .u64 0)) (ad := ⟨b, 15, none⟩) (fun _ => by kernel_rfl) h11_8 (Bb_1.cell 15)) (by rw [F8.size]; decide) fun a9 u9 (h12_9 : a9.tmps.getD 12 undef = (.int .u64 0)) => ?_
  have F9 := F8.pt u9
  have h0_9 := u9.v 0 h0_8 (by decide)
  have h1_9 := u9.v 1 h1_8 (by decide)
  have h4_9 := u9.v 4 h4_8 (by decide)
  have h8_9 := u9.v 8 h8_8 (by decide)
  clear h0_8 h1_8 h4_8 h8_8 h11_8 u9 F8
  refine st_p (ex_bin (vx := (.int .u64 0)) (vy := (.int .u64 0)) (v := (.bool true)) h8_9 h12_9 ((bo_eqlu _ _ _).trans (by rfl))) (by rw [F9.size]; decide) fun a10 u10 (h13_10 : a10.tmps.getD 13 undef = (.bool true)) => ?_
  have F10 := F9.pt u10
  have h0_10 := u10.v 0 h0_9 (by decide)
  have h1_10 := u10.v 1 h1_9 (by decide)
  have h4_10 := u10.v 4 h4_9 (by decide)
  clear h0_9 h1_9 h4_9 h8_9 h12_9 u10 F9
  refine st_p (ex_mv (v := (.bool true)) h13_10) (by rw [F10.size]; decide) fun a11 u11 (h14_11 : a11.tmps.getD 14 undef = (.bool true)) => ?_
  have F11 := F10.pt u11
  have h0_11 := u11.v 0 h0_10 (by decide)
  have h1_11 := u11.v 1 h1_10 (by decide)
  have h4_11 := u11.v 4 h4_10 (by decide)
  clear h0_10 h1_10 h4_10 h13_10 u11 F10
  refine st_g (yl (e := 14) rfl h14_11) (ex_mv (v := (.pointer (some ⟨b, 0, none⟩))) h0_11) (by rw [F11.size]; decide) fun a12 u12 (h15_12 : a12.tmps.getD 15 undef = (.pointer (some ⟨b, 0, none⟩))) => ?_
  have F12 := F11.pt u12
  have h0_12 := u12.v 0 h0_11 (by decide)
  have h1_12 := u12.v 1 h1_11 (by decide)
  have h4_12 := u12.v 4 h4_11 (by decide)
  have h14_12 := u12.v 14 h14_11 (by decide)
  clear h0_11 h1_11 h4_11 h14_11 u12 F11
  refine st_g (yl (e := 14) rfl h14_12) (ex_nil (ad := ⟨b, 0, none⟩) h15_12) (by rw [F12.size]; decide) fun a13 u13 (h16_13 : a13.tmps.getD 16 undef = (.pointer (some ⟨b, 0, none⟩))) => ?_
  have F13 := F12.pt u13
  have h0_13 := u13.v 0 h0_12 (by decide)
  have h1_13 := u13.v 1 h1_12 (by decide)
  have h4_13 := u13.v 4 h4_12 (by decide)
  have h14_13 := u13.v 14 h14_12 (by decide)
  clear h0_12 h1_12 h4_12 h14_12 h15_12 u13 F12
  refine st_g (yl (e := 14) rfl h14_13) (ex_fa (T := 70) (f := 16) (k := 16) (b := b) (fun _ _ => by kernel_rfl) h16_13) (by rw [F13.size]; decide) fun a14 u14 (h17_14 : a14.tmps.getD 17 undef = (.pointer (some ⟨b, 16, none⟩))) => ?_
  have F14 := F13.pt u14
  have h0_14 := u14.v 0 h0_13 (by decide)
  have h1_14 := u14.v 1 h1_13 (by decide)
  have h4_14 := u14.v 4 h4_13 (by decide)
  have h14_14 := u14.v 14 h14_13 (by decide)
  clear h0_13 h1_13 h4_13 h14_13 h16_13 u14 F13
  refine st_g (yl (e := 14) rfl h14_14) (ex_ld (v := (.int .u64 0)) (ad := ⟨b, 16, none⟩) (fun _ => by kernel_rfl) h17_14 (Bb_1.cell 16)) (by rw [F14.size]; decide) fun a15 u15 (h18_15 : a15.tmps.getD 18 undef = (.int .u64 0)) => ?_
  have F15 := F14.pt u15
  have h0_15 := u15.v 0 h0_14 (by decide)
  have h1_15 := u15.v 1 h1_14 (by decide)
  have h4_15 := u15.v 4 h4_14 (by decide)
  have h14_15 := u15.v 14 h14_14 (by decide)
  clear h0_14 h1_14 h4_14 h14_14 h17_14 u15 F14
  refine st_g (yl (e := 14) rfl h14_15) (ex_bin (vx := (.int .u64 0)) (vy := (.int .u64 0)) (v := (.bool false)) h18_15 rfl ((bo_gtru _ _ _).trans (by rfl))) (by rw [F15.size]; decide) fun a16 u16 (h19_16 : a16.tmps.getD 19 undef = (.bool false)) => ?_
  have F16 := F15.pt u16
  have h0_16 := u16.v 0 h0_15 (by decide)
  have h1_16 := u16.v 1 h1_15 (by decide)
  have h4_16 := u16.v 4 h4_15 (by decide)
  have h14_16 := u16.v 14 h14_15 (by decide)
  clear h0_15 h1_15 h4_15 h14_15 h18_15 u16 F15
  refine st_p (ex_pick (q := true) (v := (.bool false)) h14_16 h19_16) (by rw [F16.size]; decide) fun a17 u17 (h20_17 : a17.tmps.getD 20 undef = (.bool false)) => ?_
  have F17 := F16.pt u17
  have h0_17 := u17.v 0 h0_16 (by decide)
  have h1_17 := u17.v 1 h1_16 (by decide)
  have h4_17 := u17.v 4 h4_16 (by decide)
  have h14_17 := u17.v 14 h14_16 (by decide)
  clear h0_16 h1_16 h4_16 h14_16 h19_16 u17 F16
  change Code.wp _ _ _ _ _
  refine wp_cond_false h20_17 ?_
  refine wp_skip ?_
  change Code.wp _ _ _ _ _
  refine wp_seq ?_
  refine rg_list ?_
  refine wl_p (ex_mv (v := (.pointer (some ⟨q, 0, none⟩))) h1_17) (by rw [F17.size]; decide) fun a18 u18 (h22_18 : a18.tmps.getD 22 undef = (.pointer (some ⟨q, 0, none⟩))) => ?_
  have F18 := F17.pt u18
  have h0_18 := u18.v 0 h0_17 (by decide)
  have h1_18 := u18.v 1 h1_17 (by decide)
  have h4_18 := u18.v 4 h4_17 (by decide)
  clear h0_17 h1_17 h4_17 h14_17 h20_17 u18 F17
  refine wl_p (ex_mv (v := (.pointer (some ⟨b, 0, none⟩))) h0_18) (by rw [F18.size]; decide) fun a19 u19 (h23_19 : a19.tmps.getD 23 undef = (.pointer (some ⟨b, 0, none⟩))) => ?_
  have F19 := F18.pt u19
  have h0_19 := u19.v 0 h0_18 (by decide)
  have h1_19 := u19.v 1 h1_18 (by decide)
  have h4_19 := u19.v 4 h4_18 (by decide)
  have h22_19 := u19.v 22 h22_18 (by decide)
  clear h0_18 h1_18 h4_18 h22_18 u19 F18
  refine wl_p (ex_nil (ad := ⟨b, 0, none⟩) h23_19) (by rw [F19.size]; decide) fun a20 u20 (h24_20 : a20.tmps.getD 24 undef = (.pointer (some ⟨b, 0, none⟩))) => ?_
  have F20 := F19.pt u20
  have h0_20 := u20.v 0 h0_19 (by decide)
  have h1_20 := u20.v 1 h1_19 (by decide)
  have h4_20 := u20.v 4 h4_19 (by decide)
  have h22_20 := u20.v 22 h22_19 (by decide)
  clear h0_19 h1_19 h4_19 h22_19 h23_19 u20 F19
  refine wl_p (ex_fa (T := 70) (f := 1) (k := 1) (b := b) (fun _ _ => by kernel_rfl) h24_20) (by rw [F20.size]; decide) fun a21 u21 (h25_21 : a21.tmps.getD 25 undef = (.pointer (some ⟨b, 1, none⟩))) => ?_
  have F21 := F20.pt u21
  have h0_21 := u21.v 0 h0_20 (by decide)
  have h1_21 := u21.v 1 h1_20 (by decide)
  have h4_21 := u21.v 4 h4_20 (by decide)
  have h22_21 := u21.v 22 h22_20 (by decide)
  clear h0_20 h1_20 h4_20 h22_20 h24_20 u21 F20
  refine wl_p (ex_ld (v := (.int .u64 seq)) (ad := ⟨b, 1, none⟩) (fun _ => by kernel_rfl) h25_21 (Bb_1.cell 1)) (by rw [F21.size]; decide) fun a22 u22 (h26_22 : a22.tmps.getD 26 undef = (.int .u64 seq)) => ?_
  have F22 := F21.pt u22
  have h0_22 := u22.v 0 h0_21 (by decide)
  have h1_22 := u22.v 1 h1_21 (by decide)
  have h4_22 := u22.v 4 h4_21 (by decide)
  have h22_22 := u22.v 22 h22_21 (by decide)
  clear h0_21 h1_21 h4_21 h22_21 h25_21 u22 F21
  refine wl_p (ex_nil (ad := ⟨q, 0, none⟩) h22_22) (by rw [F22.size]; decide) fun a23 u23 (h27_23 : a23.tmps.getD 27 undef = (.pointer (some ⟨q, 0, none⟩))) => ?_
  have F23 := F22.pt u23
  have h0_23 := u23.v 0 h0_22 (by decide)
  have h1_23 := u23.v 1 h1_22 (by decide)
  have h4_23 := u23.v 4 h4_22 (by decide)
  have h26_23 := u23.v 26 h26_22 (by decide)
  clear h0_22 h1_22 h4_22 h22_22 h26_22 u23 F22
  refine wl_p (ex_fa (T := 96) (f := 0) (k := 0) (b := q) (fun _ _ => by kernel_rfl) h27_23) (by rw [F23.size]; decide) fun a24 u24 (h28_24 : a24.tmps.getD 28 undef = (.pointer (some ⟨q, 0, none⟩))) => ?_
  have F24 := F23.pt u24
  have h0_24 := u24.v 0 h0_23 (by decide)
  have h1_24 := u24.v 1 h1_23 (by decide)
  have h4_24 := u24.v 4 h4_23 (by decide)
  have h26_24 := u24.v 26 h26_23 (by decide)
  clear h0_23 h1_23 h4_23 h26_23 h27_23 u24 F23
  obtain ⟨w2, hr2, Bq_2, G2⟩ := st_run (T := 25) (o := 0) (v := (.int .u64 seq)) (cs' := #[(.int .u64 seq), s1, s2, (.float .f64 y), s4, s5, s6, s7, s8, s9, s10]) (fun _ => by kernel_rfl) Bq_1 rfl (by simp) rfl
  have Bb_2 := Bb_1.gk G2 (Ne.symm hqb)
  have Bg_2 := Bg_1.gk G2 hgq
  have Kp2 := Kp1.set G2 (Or.inl (by simp))
  refine wl_n (ex_st h28_24 h26_24 hr2) ?_
  clear Bb_1 Bg_1 Kp1 Bq_1 hr2 G2
  change Code.wp _ _ _ _ _
  refine wp_seq ?_
  refine wp_seq ?_
  refine rg_list ?_
  refine wl_p (ex_mv (v := (.pointer (some ⟨b, 0, none⟩))) h0_24) (by rw [F24.size]; decide) fun a25 u25 (h29_25 : a25.tmps.getD 29 undef = (.pointer (some ⟨b, 0, none⟩))) => ?_
  have F25 := F24.pt u25
  have h0_25 := u25.v 0 h0_24 (by decide)
  have h1_25 := u25.v 1 h1_24 (by decide)
  have h4_25 := u25.v 4 h4_24 (by decide)
  clear h0_24 h1_24 h4_24 h26_24 h28_24 u25 F24
  refine wl_p (ex_nil (ad := ⟨b, 0, none⟩) h29_25) (by rw [F25.size]; decide) fun a26 u26 (h30_26 : a26.tmps.getD 30 undef = (.pointer (some ⟨b, 0, none⟩))) => ?_
  have F26 := F25.pt u26
  have h0_26 := u26.v 0 h0_25 (by decide)
  have h1_26 := u26.v 1 h1_25 (by decide)
  have h4_26 := u26.v 4 h4_25 (by decide)
  clear h0_25 h1_25 h4_25 h29_25 u26 F25
  refine wl_p (ex_fa (T := 70) (f := 16) (k := 16) (b := b) (fun _ _ => by kernel_rfl) h30_26) (by rw [F26.size]; decide) fun a27 u27 (h31_27 : a27.tmps.getD 31 undef = (.pointer (some ⟨b, 16, none⟩))) => ?_
  have F27 := F26.pt u27
  have h0_27 := u27.v 0 h0_26 (by decide)
  have h1_27 := u27.v 1 h1_26 (by decide)
  have h4_27 := u27.v 4 h4_26 (by decide)
  clear h0_26 h1_26 h4_26 h30_26 u27 F26
  refine wl_p (ex_ld (v := (.int .u64 0)) (ad := ⟨b, 16, none⟩) (fun _ => by kernel_rfl) h31_27 (Bb_2.cell 16)) (by rw [F27.size]; decide) fun a28 u28 (h32_28 : a28.tmps.getD 32 undef = (.int .u64 0)) => ?_
  have F28 := F27.pt u28
  have h0_28 := u28.v 0 h0_27 (by decide)
  have h1_28 := u28.v 1 h1_27 (by decide)
  have h4_28 := u28.v 4 h4_27 (by decide)
  clear h0_27 h1_27 h4_27 h31_27 u28 F27
  refine wl_p (ex_bin (vx := (.int .u64 0)) (vy := (.int .u64 0)) (v := (.bool false)) h32_28 rfl ((bo_gtru _ _ _).trans (by rfl))) (by rw [F28.size]; decide) fun a29 u29 (h33_29 : a29.tmps.getD 33 undef = (.bool false)) => ?_
  have F29 := F28.pt u29
  have h0_29 := u29.v 0 h0_28 (by decide)
  have h1_29 := u29.v 1 h1_28 (by decide)
  have h4_29 := u29.v 4 h4_28 (by decide)
  clear h0_28 h1_28 h4_28 h32_28 u29 F28
  change Code.wp _ _ _ _ _
  refine wp_cond_false h33_29 ?_
  refine wp_skip ?_
  change Code.wp _ _ _ _ _
  refine wp_seq ?_
  obtain ⟨w3, hw3⟩ : ∃ w, w = w2.drew := ⟨_, rfl⟩
  have G3 : w2.grownBy w3 none := hw3 ▸ grown_drew _
  have Bb_3 := Bb_2.gn G3
  have Bg_3 := Bg_2.gn G3
  have Bq_3 := Bq_2.gn G3
  have Kp3 := Kp2.new G3
  refine rg_stillt 10 hw3 hmix (by kernel_rfl) ?_
  clear Bb_2 Bg_2 Bq_2 Kp2 hw3 G3
  refine st_p (ex_mv (v := (.pointer (some ⟨b, 0, none⟩))) h0_29) (by rw [F29.size]; decide) fun a30 u30 (h62_30 : a30.tmps.getD 62 undef = (.pointer (some ⟨b, 0, none⟩))) => ?_
  have F30 := F29.pt u30
  have h0_30 := u30.v 0 h0_29 (by decide)
  have h1_30 := u30.v 1 h1_29 (by decide)
  have h4_30 := u30.v 4 h4_29 (by decide)
  clear h0_29 h1_29 h4_29 h33_29 u30 F29
  refine st_p (ex_nil (ad := ⟨b, 0, none⟩) h62_30) (by rw [F30.size]; decide) fun a31 u31 (h63_31 : a31.tmps.getD 63 undef = (.pointer (some ⟨b, 0, none⟩))) => ?_
  have F31 := F30.pt u31
  have h0_31 := u31.v 0 h0_30 (by decide)
  have h1_31 := u31.v 1 h1_30 (by decide)
  have h4_31 := u31.v 4 h4_30 (by decide)
  clear h0_30 h1_30 h4_30 h62_30 u31 F30
  refine st_p (ex_fa (T := 70) (f := 2) (k := 2) (b := b) (fun _ _ => by kernel_rfl) h63_31) (by rw [F31.size]; decide) fun a32 u32 (h64_32 : a32.tmps.getD 64 undef = (.pointer (some ⟨b, 2, none⟩))) => ?_
  have F32 := F31.pt u32
  have h0_32 := u32.v 0 h0_31 (by decide)
  have h1_32 := u32.v 1 h1_31 (by decide)
  have h4_32 := u32.v 4 h4_31 (by decide)
  clear h0_31 h1_31 h4_31 h63_31 u32 F31
  refine st_p (ex_ld (v := (.slice (some ⟨g, 0, none⟩) cap cap)) (ad := ⟨b, 2, none⟩) (fun _ => by kernel_rfl) h64_32 (Bb_3.cell 2)) (by rw [F32.size]; decide) fun a33 u33 (h65_33 : a33.tmps.getD 65 undef = (.slice (some ⟨g, 0, none⟩) cap cap)) => ?_
  have F33 := F32.pt u33
  have h0_33 := u33.v 0 h0_32 (by decide)
  have h1_33 := u33.v 1 h1_32 (by decide)
  have h4_33 := u33.v 4 h4_32 (by decide)
  clear h0_32 h1_32 h4_32 h64_32 u33 F32
  refine st_p (ex_mv (v := (.pointer (some ⟨b, 0, none⟩))) h0_33) (by rw [F33.size]; decide) fun a34 u34 (h66_34 : a34.tmps.getD 66 undef = (.pointer (some ⟨b, 0, none⟩))) => ?_
  have F34 := F33.pt u34
  have h0_34 := u34.v 0 h0_33 (by decide)
  have h1_34 := u34.v 1 h1_33 (by decide)
  have h4_34 := u34.v 4 h4_33 (by decide)
  have h65_34 := u34.v 65 h65_33 (by decide)
  clear h0_33 h1_33 h4_33 h65_33 u34 F33
  refine st_p (ex_nil (ad := ⟨b, 0, none⟩) h66_34) (by rw [F34.size]; decide) fun a35 u35 (h67_35 : a35.tmps.getD 67 undef = (.pointer (some ⟨b, 0, none⟩))) => ?_
  have F35 := F34.pt u35
  have h0_35 := u35.v 0 h0_34 (by decide)
  have h1_35 := u35.v 1 h1_34 (by decide)
  have h4_35 := u35.v 4 h4_34 (by decide)
  have h65_35 := u35.v 65 h65_34 (by decide)
  clear h0_34 h1_34 h4_34 h65_34 h66_34 u35 F34
  refine st_p (ex_fa (T := 70) (f := 15) (k := 15) (b := b) (fun _ _ => by kernel_rfl) h67_35) (by rw [F35.size]; decide) fun a36 u36 (h68_36 : a36.tmps.getD 68 undef = (.pointer (some ⟨b, 15, none⟩))) => ?_
  have F36 := F35.pt u36
  have h0_36 := u36.v 0 h0_35 (by decide)
  have h1_36 := u36.v 1 h1_35 (by decide)
  have h4_36 := u36.v 4 h4_35 (by decide)
  have h65_36 := u36.v 65 h65_35 (by decide)
  clear h0_35 h1_35 h4_35 h65_35 h67_35 u36 F35
  refine st_p (ex_ld (v := (.int .u64 0)) (ad := ⟨b, 15, none⟩) (fun _ => by kernel_rfl) h68_36 (Bb_3.cell 15)) (by rw [F36.size]; decide) fun a37 u37 (h69_37 : a37.tmps.getD 69 undef = (.int .u64 0)) => ?_
  have F37 := F36.pt u37
  have h0_37 := u37.v 0 h0_36 (by decide)
  have h1_37 := u37.v 1 h1_36 (by decide)
  have h4_37 := u37.v 4 h4_36 (by decide)
  have h65_37 := u37.v 65 h65_36 (by decide)
  clear h0_36 h1_36 h4_36 h65_36 h68_36 u37 F36
  refine st_p (ex_mv (v := (.pointer (some ⟨q, 0, none⟩))) h1_37) (by rw [F37.size]; decide) fun a38 u38 (h70_38 : a38.tmps.getD 70 undef = (.pointer (some ⟨q, 0, none⟩))) => ?_
  have F38 := F37.pt u38
  have h0_38 := u38.v 0 h0_37 (by decide)
  have h1_38 := u38.v 1 h1_37 (by decide)
  have h4_38 := u38.v 4 h4_37 (by decide)
  have h65_38 := u38.v 65 h65_37 (by decide)
  have h69_38 := u38.v 69 h69_37 (by decide)
  clear h0_37 h1_37 h4_37 h65_37 h69_37 u38 F37
  refine st_p (ex_ixg (vx := (.slice (some ⟨g, 0, none⟩) cap cap)) (vy := (.int .u64 0)) (v := (.pointer (some ⟨g, 0, none⟩))) h65_38 h69_38 (ix_run g cap 0 (by omega) _)) (by rw [F38.size]; decide) fun a39 u39 (h71_39 : a39.tmps.getD 71 undef = (.pointer (some ⟨g, 0, none⟩))) => ?_
  have F39 := F38.pt u39
  have h0_39 := u39.v 0 h0_38 (by decide)
  have h1_39 := u39.v 1 h1_38 (by decide)
  have h4_39 := u39.v 4 h4_38 (by decide)
  have h70_39 := u39.v 70 h70_38 (by decide)
  clear h0_38 h1_38 h4_38 h65_38 h69_38 h70_38 u39 F38
  obtain ⟨w4, hr4, Bg_4, G4⟩ := st_run (T := 74) (o := 0) (v := (.pointer (some ⟨q, 0, none⟩))) (cs' := (arr.setIfInBounds 0 (.pointer (some ⟨q, 0, none⟩)))) (fun _ => by kernel_rfl) Bg_3 rfl (hin) rfl
  have Bb_4 := Bb_3.gk G4 (Ne.symm hgb)
  have Bq_4 := Bq_3.gk G4 (Ne.symm hgq)
  have Kp4 := Kp3.set G4 (Or.inl (by simp))
  refine wl_n (ex_st h71_39 h70_39 hr4) ?_
  clear Bb_3 Bq_3 Kp3 Bg_3 hr4 G4
  change Code.wp _ _ _ _ _
  refine wp_seq ?_
  obtain ⟨w5, hw5⟩ : ∃ w, w = w4.drew := ⟨_, rfl⟩
  have G5 : w4.grownBy w5 none := hw5 ▸ grown_drew _
  have Bb_5 := Bb_4.gn G5
  have Bg_5 := Bg_4.gn G5
  have Bq_5 := Bq_4.gn G5
  have Kp5 := Kp4.new G5
  refine rg_stillt 13 hw5 hmix (by kernel_rfl) ?_
  clear Bb_4 Bg_4 Bq_4 Kp4 hw5 G5
  refine st_p (ex_mv (v := (.pointer (some ⟨b, 0, none⟩))) h0_39) (by rw [F39.size]; decide) fun a40 u40 (h72_40 : a40.tmps.getD 72 undef = (.pointer (some ⟨b, 0, none⟩))) => ?_
  have F40 := F39.pt u40
  have h0_40 := u40.v 0 h0_39 (by decide)
  have h1_40 := u40.v 1 h1_39 (by decide)
  have h4_40 := u40.v 4 h4_39 (by decide)
  clear h0_39 h1_39 h4_39 h70_39 h71_39 u40 F39
  refine st_p (ex_mv (v := (.pointer (some ⟨b, 0, none⟩))) h0_40) (by rw [F40.size]; decide) fun a41 u41 (h73_41 : a41.tmps.getD 73 undef = (.pointer (some ⟨b, 0, none⟩))) => ?_
  have F41 := F40.pt u41
  have h0_41 := u41.v 0 h0_40 (by decide)
  have h1_41 := u41.v 1 h1_40 (by decide)
  have h4_41 := u41.v 4 h4_40 (by decide)
  have h72_41 := u41.v 72 h72_40 (by decide)
  clear h0_40 h1_40 h4_40 h72_40 u41 F40
  refine st_p (ex_nil (ad := ⟨b, 0, none⟩) h73_41) (by rw [F41.size]; decide) fun a42 u42 (h74_42 : a42.tmps.getD 74 undef = (.pointer (some ⟨b, 0, none⟩))) => ?_
  have F42 := F41.pt u42
  have h0_42 := u42.v 0 h0_41 (by decide)
  have h1_42 := u42.v 1 h1_41 (by decide)
  have h4_42 := u42.v 4 h4_41 (by decide)
  have h72_42 := u42.v 72 h72_41 (by decide)
  clear h0_41 h1_41 h4_41 h72_41 h73_41 u42 F41
  refine st_p (ex_fa (T := 70) (f := 15) (k := 15) (b := b) (fun _ _ => by kernel_rfl) h74_42) (by rw [F42.size]; decide) fun a43 u43 (h75_43 : a43.tmps.getD 75 undef = (.pointer (some ⟨b, 15, none⟩))) => ?_
  have F43 := F42.pt u43
  have h0_43 := u43.v 0 h0_42 (by decide)
  have h1_43 := u43.v 1 h1_42 (by decide)
  have h4_43 := u43.v 4 h4_42 (by decide)
  have h72_43 := u43.v 72 h72_42 (by decide)
  clear h0_42 h1_42 h4_42 h72_42 h74_42 u43 F42
  refine st_p (ex_ld (v := (.int .u64 0)) (ad := ⟨b, 15, none⟩) (fun _ => by kernel_rfl) h75_43 (Bb_5.cell 15)) (by rw [F43.size]; decide) fun a44 u44 (h76_44 : a44.tmps.getD 76 undef = (.int .u64 0)) => ?_
  have F44 := F43.pt u44
  have h0_44 := u44.v 0 h0_43 (by decide)
  have h1_44 := u44.v 1 h1_43 (by decide)
  have h4_44 := u44.v 4 h4_43 (by decide)
  have h72_44 := u44.v 72 h72_43 (by decide)
  clear h0_43 h1_43 h4_43 h72_43 h75_43 u44 F43
  refine st_p (ex_bin (vx := (.int .u64 0)) (vy := (.int .u64 1)) (v := (.int .u64 (0 + 1))) h76_44 rfl (bo_addu _ _ _ (by omega) (by omega))) (by rw [F44.size]; decide) fun a45 u45 (h77_45 : a45.tmps.getD 77 undef = (.int .u64 (0 + 1))) => ?_
  have F45 := F44.pt u45
  have h0_45 := u45.v 0 h0_44 (by decide)
  have h1_45 := u45.v 1 h1_44 (by decide)
  have h4_45 := u45.v 4 h4_44 (by decide)
  have h72_45 := u45.v 72 h72_44 (by decide)
  clear h0_44 h1_44 h4_44 h72_44 h76_44 u45 F44
  refine st_p (ex_mv (v := (.pointer (some ⟨b, 0, none⟩))) h0_45) (by rw [F45.size]; decide) fun a46 u46 (h78_46 : a46.tmps.getD 78 undef = (.pointer (some ⟨b, 0, none⟩))) => ?_
  have F46 := F45.pt u46
  have h0_46 := u46.v 0 h0_45 (by decide)
  have h1_46 := u46.v 1 h1_45 (by decide)
  have h4_46 := u46.v 4 h4_45 (by decide)
  have h72_46 := u46.v 72 h72_45 (by decide)
  have h77_46 := u46.v 77 h77_45 (by decide)
  clear h0_45 h1_45 h4_45 h72_45 h77_45 u46 F45
  refine st_p (ex_nil (ad := ⟨b, 0, none⟩) h78_46) (by rw [F46.size]; decide) fun a47 u47 (h79_47 : a47.tmps.getD 79 undef = (.pointer (some ⟨b, 0, none⟩))) => ?_
  have F47 := F46.pt u47
  have h0_47 := u47.v 0 h0_46 (by decide)
  have h1_47 := u47.v 1 h1_46 (by decide)
  have h4_47 := u47.v 4 h4_46 (by decide)
  have h72_47 := u47.v 72 h72_46 (by decide)
  have h77_47 := u47.v 77 h77_46 (by decide)
  clear h0_46 h1_46 h4_46 h72_46 h77_46 h78_46 u47 F46
  refine st_p (ex_fa (T := 70) (f := 13) (k := 13) (b := b) (fun _ _ => by kernel_rfl) h79_47) (by rw [F47.size]; decide) fun a48 u48 (h80_48 : a48.tmps.getD 80 undef = (.pointer (some ⟨b, 13, none⟩))) => ?_
  have F48 := F47.pt u48
  have h0_48 := u48.v 0 h0_47 (by decide)
  have h1_48 := u48.v 1 h1_47 (by decide)
  have h4_48 := u48.v 4 h4_47 (by decide)
  have h72_48 := u48.v 72 h72_47 (by decide)
  have h77_48 := u48.v 77 h77_47 (by decide)
  clear h0_47 h1_47 h4_47 h72_47 h77_47 h79_47 u48 F47
  refine st_p (ex_ld (v := (.int .u64 cap)) (ad := ⟨b, 13, none⟩) (fun _ => by kernel_rfl) h80_48 (Bb_5.cell 13)) (by rw [F48.size]; decide) fun a49 u49 (h81_49 : a49.tmps.getD 81 undef = (.int .u64 cap)) => ?_
  have F49 := F48.pt u49
  have h0_49 := u49.v 0 h0_48 (by decide)
  have h1_49 := u49.v 1 h1_48 (by decide)
  have h4_49 := u49.v 4 h4_48 (by decide)
  have h72_49 := u49.v 72 h72_48 (by decide)
  have h77_49 := u49.v 77 h77_48 (by decide)
  clear h0_48 h1_48 h4_48 h72_48 h77_48 h80_48 u49 F48
  refine st_p (ex_bin (vx := (.int .u64 (0 + 1))) (vy := (.int .u64 cap)) (v := (.int .u64 (((0 : Int) + 1) % cap))) h77_49 h81_49 (bo_remu _ _ _ (by omega) (by omega) (by omega))) (by rw [F49.size]; decide) fun a50 u50 (h82_50 : a50.tmps.getD 82 undef = (.int .u64 (((0 : Int) + 1) % cap))) => ?_
  have F50 := F49.pt u50
  have h0_50 := u50.v 0 h0_49 (by decide)
  have h1_50 := u50.v 1 h1_49 (by decide)
  have h4_50 := u50.v 4 h4_49 (by decide)
  have h72_50 := u50.v 72 h72_49 (by decide)
  clear h0_49 h1_49 h4_49 h72_49 h77_49 h81_49 u50 F49
  refine st_p (ex_nil (ad := ⟨b, 0, none⟩) h72_50) (by rw [F50.size]; decide) fun a51 u51 (h83_51 : a51.tmps.getD 83 undef = (.pointer (some ⟨b, 0, none⟩))) => ?_
  have F51 := F50.pt u51
  have h0_51 := u51.v 0 h0_50 (by decide)
  have h1_51 := u51.v 1 h1_50 (by decide)
  have h4_51 := u51.v 4 h4_50 (by decide)
  have h82_51 := u51.v 82 h82_50 (by decide)
  clear h0_50 h1_50 h4_50 h72_50 h82_50 u51 F50
  refine st_p (ex_fa (T := 70) (f := 15) (k := 15) (b := b) (fun _ _ => by kernel_rfl) h83_51) (by rw [F51.size]; decide) fun a52 u52 (h84_52 : a52.tmps.getD 84 undef = (.pointer (some ⟨b, 15, none⟩))) => ?_
  have F52 := F51.pt u52
  have h0_52 := u52.v 0 h0_51 (by decide)
  have h1_52 := u52.v 1 h1_51 (by decide)
  have h4_52 := u52.v 4 h4_51 (by decide)
  have h82_52 := u52.v 82 h82_51 (by decide)
  clear h0_51 h1_51 h4_51 h82_51 h83_51 u52 F51
  obtain ⟨w6, hr6, Bb_6, G6⟩ := st_run (T := 50) (o := 15) (v := (.int .u64 (((0 : Int) + 1) % cap))) (cs' := #[(.float .f64 x), (.int .u64 seq), (.slice (some ⟨g, 0, none⟩) cap cap), c3, c4, c5, c6, c7, c8, c9, c10, c11, c12, (.int .u64 cap), (.int .u64 0), (.int .u64 (((0 : Int) + 1) % cap)), (.int .u64 0), (.slice none 0 0), (.int .i64 0), (.int .i8 0), c20, c21, c22]) (fun _ => by kernel_rfl) Bb_5 rfl (by simp) rfl
  have Bg_6 := Bg_5.gk G6 hgb
  have Bq_6 := Bq_5.gk G6 hqb
  have Kp6 := Kp5.set G6 (Or.inl (by simp))
  refine wl_n (ex_st h84_52 h82_52 hr6) ?_
  clear Bg_5 Bq_5 Kp5 Bb_5 hr6 G6
  change Code.wp _ _ _ _ _
  refine wp_seq ?_
  refine rg_list ?_
  refine wl_p (ex_mv (v := (.pointer (some ⟨b, 0, none⟩))) h0_52) (by rw [F52.size]; decide) fun a53 u53 (h85_53 : a53.tmps.getD 85 undef = (.pointer (some ⟨b, 0, none⟩))) => ?_
  have F53 := F52.pt u53
  have h0_53 := u53.v 0 h0_52 (by decide)
  have h1_53 := u53.v 1 h1_52 (by decide)
  have h4_53 := u53.v 4 h4_52 (by decide)
  clear h0_52 h1_52 h4_52 h82_52 h84_52 u53 F52
  refine wl_p (ex_nil (ad := ⟨b, 0, none⟩) h85_53) (by rw [F53.size]; decide) fun a54 u54 (h86_54 : a54.tmps.getD 86 undef = (.pointer (some ⟨b, 0, none⟩))) => ?_
  have F54 := F53.pt u54
  have h0_54 := u54.v 0 h0_53 (by decide)
  have h1_54 := u54.v 1 h1_53 (by decide)
  have h4_54 := u54.v 4 h4_53 (by decide)
  have h85_54 := u54.v 85 h85_53 (by decide)
  clear h0_53 h1_53 h4_53 h85_53 u54 F53
  refine wl_p (ex_fa (T := 70) (f := 16) (k := 16) (b := b) (fun _ _ => by kernel_rfl) h86_54) (by rw [F54.size]; decide) fun a55 u55 (h87_55 : a55.tmps.getD 87 undef = (.pointer (some ⟨b, 16, none⟩))) => ?_
  have F55 := F54.pt u55
  have h0_55 := u55.v 0 h0_54 (by decide)
  have h1_55 := u55.v 1 h1_54 (by decide)
  have h4_55 := u55.v 4 h4_54 (by decide)
  have h85_55 := u55.v 85 h85_54 (by decide)
  clear h0_54 h1_54 h4_54 h85_54 h86_54 u55 F54
  refine wl_p (ex_ld (v := (.int .u64 0)) (ad := ⟨b, 16, none⟩) (fun _ => by kernel_rfl) h87_55 (Bb_6.cell 16)) (by rw [F55.size]; decide) fun a56 u56 (h88_56 : a56.tmps.getD 88 undef = (.int .u64 0)) => ?_
  have F56 := F55.pt u56
  have h0_56 := u56.v 0 h0_55 (by decide)
  have h1_56 := u56.v 1 h1_55 (by decide)
  have h4_56 := u56.v 4 h4_55 (by decide)
  have h85_56 := u56.v 85 h85_55 (by decide)
  clear h0_55 h1_55 h4_55 h85_55 h87_55 u56 F55
  refine wl_p (ex_bin (vx := (.int .u64 0)) (vy := (.int .u64 1)) (v := (.int .u64 (0 + 1))) h88_56 rfl (bo_addu _ _ _ (by omega) (by omega))) (by rw [F56.size]; decide) fun a57 u57 (h89_57 : a57.tmps.getD 89 undef = (.int .u64 (0 + 1))) => ?_
  have F57 := F56.pt u57
  have h0_57 := u57.v 0 h0_56 (by decide)
  have h1_57 := u57.v 1 h1_56 (by decide)
  have h4_57 := u57.v 4 h4_56 (by decide)
  have h85_57 := u57.v 85 h85_56 (by decide)
  clear h0_56 h1_56 h4_56 h85_56 h88_56 u57 F56
  refine wl_p (ex_nil (ad := ⟨b, 0, none⟩) h85_57) (by rw [F57.size]; decide) fun a58 u58 (h90_58 : a58.tmps.getD 90 undef = (.pointer (some ⟨b, 0, none⟩))) => ?_
  have F58 := F57.pt u58
  have h0_58 := u58.v 0 h0_57 (by decide)
  have h1_58 := u58.v 1 h1_57 (by decide)
  have h4_58 := u58.v 4 h4_57 (by decide)
  have h89_58 := u58.v 89 h89_57 (by decide)
  clear h0_57 h1_57 h4_57 h85_57 h89_57 u58 F57
  refine wl_p (ex_fa (T := 70) (f := 16) (k := 16) (b := b) (fun _ _ => by kernel_rfl) h90_58) (by rw [F58.size]; decide) fun a59 u59 (h91_59 : a59.tmps.getD 91 undef = (.pointer (some ⟨b, 16, none⟩))) => ?_
  have F59 := F58.pt u59
  have h0_59 := u59.v 0 h0_58 (by decide)
  have h1_59 := u59.v 1 h1_58 (by decide)
  have h4_59 := u59.v 4 h4_58 (by decide)
  have h89_59 := u59.v 89 h89_58 (by decide)
  clear h0_58 h1_58 h4_58 h89_58 h90_58 u59 F58
  obtain ⟨w7, hr7, Bb_7, G7⟩ := st_run (T := 50) (o := 16) (v := (.int .u64 (0 + 1))) (cs' := #[(.float .f64 x), (.int .u64 seq), (.slice (some ⟨g, 0, none⟩) cap cap), c3, c4, c5, c6, c7, c8, c9, c10, c11, c12, (.int .u64 cap), (.int .u64 0), (.int .u64 (((0 : Int) + 1) % cap)), (.int .u64 (0 + 1)), (.slice none 0 0), (.int .i64 0), (.int .i8 0), c20, c21, c22]) (fun _ => by kernel_rfl) Bb_6 rfl (by simp) rfl
  have Bg_7 := Bg_6.gk G7 hgb
  have Bq_7 := Bq_6.gk G7 hqb
  have Kp7 := Kp6.set G7 (Or.inl (by simp))
  refine wl_n (ex_st h91_59 h89_59 hr7) ?_
  clear Bg_6 Bq_6 Kp6 Bb_6 hr7 G7
  change Code.wp _ _ _ _ _
  refine wp_seq ?_
  refine wp_seq ?_
  obtain ⟨w8, hw8⟩ : ∃ w, w = w7.drew := ⟨_, rfl⟩
  have G8 : w7.grownBy w8 none := hw8 ▸ grown_drew _
  have Bb_8 := Bb_7.gn G8
  have Bg_8 := Bg_7.gn G8
  have Bq_8 := Bq_7.gn G8
  have Kp8 := Kp7.new G8
  refine rg_still hw8 hmix (by kernel_rfl) ?_
  clear Bb_7 Bg_7 Bq_7 Kp7 hw8 G8
  refine st_p (ex_mv (v := (.pointer (some ⟨b, 0, none⟩))) h0_59) (by rw [F59.size]; decide) fun a60 u60 (h92_60 : a60.tmps.getD 92 undef = (.pointer (some ⟨b, 0, none⟩))) => ?_
  have F60 := F59.pt u60
  have h0_60 := u60.v 0 h0_59 (by decide)
  have h1_60 := u60.v 1 h1_59 (by decide)
  have h4_60 := u60.v 4 h4_59 (by decide)
  clear h0_59 h1_59 h4_59 h89_59 h91_59 u60 F59
  refine st_p (ex_nil (ad := ⟨b, 0, none⟩) h92_60) (by rw [F60.size]; decide) fun a61 u61 (h93_61 : a61.tmps.getD 93 undef = (.pointer (some ⟨b, 0, none⟩))) => ?_
  have F61 := F60.pt u61
  have h0_61 := u61.v 0 h0_60 (by decide)
  have h1_61 := u61.v 1 h1_60 (by decide)
  have h4_61 := u61.v 4 h4_60 (by decide)
  clear h0_60 h1_60 h4_60 h92_60 u61 F60
  refine st_p (ex_fa (T := 70) (f := 0) (k := 0) (b := b) (fun _ _ => by kernel_rfl) h93_61) (by rw [F61.size]; decide) fun a62 u62 (h94_62 : a62.tmps.getD 94 undef = (.pointer (some ⟨b, 0, none⟩))) => ?_
  have F62 := F61.pt u62
  have h0_62 := u62.v 0 h0_61 (by decide)
  have h1_62 := u62.v 1 h1_61 (by decide)
  have h4_62 := u62.v 4 h4_61 (by decide)
  clear h0_61 h1_61 h4_61 h93_61 u62 F61
  refine st_p (ex_ld (v := (.float .f64 x)) (ad := ⟨b, 0, none⟩) (fun _ => by kernel_rfl) h94_62 (Bb_8.cell 0)) (by rw [F62.size]; decide) fun a63 u63 (h95_63 : a63.tmps.getD 95 undef = (.float .f64 x)) => ?_
  have F63 := F62.pt u63
  have h0_63 := u63.v 0 h0_62 (by decide)
  have h1_63 := u63.v 1 h1_62 (by decide)
  have h4_63 := u63.v 4 h4_62 (by decide)
  clear h0_62 h1_62 h4_62 h94_62 u63 F62
  refine st_p (ex_mv (v := (.pointer (some ⟨q, 0, none⟩))) h1_63) (by rw [F63.size]; decide) fun a64 u64 (h96_64 : a64.tmps.getD 96 undef = (.pointer (some ⟨q, 0, none⟩))) => ?_
  have F64 := F63.pt u64
  have h0_64 := u64.v 0 h0_63 (by decide)
  have h1_64 := u64.v 1 h1_63 (by decide)
  have h4_64 := u64.v 4 h4_63 (by decide)
  have h95_64 := u64.v 95 h95_63 (by decide)
  clear h0_63 h1_63 h4_63 h95_63 u64 F63
  refine st_p (ex_nil (ad := ⟨q, 0, none⟩) h96_64) (by rw [F64.size]; decide) fun a65 u65 (h97_65 : a65.tmps.getD 97 undef = (.pointer (some ⟨q, 0, none⟩))) => ?_
  have F65 := F64.pt u65
  have h0_65 := u65.v 0 h0_64 (by decide)
  have h1_65 := u65.v 1 h1_64 (by decide)
  have h4_65 := u65.v 4 h4_64 (by decide)
  have h95_65 := u65.v 95 h95_64 (by decide)
  clear h0_64 h1_64 h4_64 h95_64 h96_64 u65 F64
  refine st_p (ex_fa (T := 96) (f := 3) (k := 3) (b := q) (fun _ _ => by kernel_rfl) h97_65) (by rw [F65.size]; decide) fun a66 u66 (h98_66 : a66.tmps.getD 98 undef = (.pointer (some ⟨q, 3, none⟩))) => ?_
  have F66 := F65.pt u66
  have h0_66 := u66.v 0 h0_65 (by decide)
  have h1_66 := u66.v 1 h1_65 (by decide)
  have h4_66 := u66.v 4 h4_65 (by decide)
  have h95_66 := u66.v 95 h95_65 (by decide)
  clear h0_65 h1_65 h4_65 h95_65 h97_65 u66 F65
  refine st_p (ex_ld (v := (.float .f64 y)) (ad := ⟨q, 3, none⟩) (fun _ => by kernel_rfl) h98_66 (Bq_8.cell 3)) (by rw [F66.size]; decide) fun a67 u67 (h99_67 : a67.tmps.getD 99 undef = (.float .f64 y)) => ?_
  have F67 := F66.pt u67
  have h0_67 := u67.v 0 h0_66 (by decide)
  have h1_67 := u67.v 1 h1_66 (by decide)
  have h4_67 := u67.v 4 h4_66 (by decide)
  have h95_67 := u67.v 95 h95_66 (by decide)
  clear h0_66 h1_66 h4_66 h95_66 h98_66 u67 F66
  refine st_p (ex_bin (vx := (.float .f64 x)) (vy := (.float .f64 y)) (v := (.bool false)) h95_67 h99_67 ((bo_lssf _ _ _).trans (by rw [hord]))) (by rw [F67.size]; decide) fun a68 u68 (h100_68 : a68.tmps.getD 100 undef = (.bool false)) => ?_
  have F68 := F67.pt u68
  have h0_68 := u68.v 0 h0_67 (by decide)
  have h1_68 := u68.v 1 h1_67 (by decide)
  have h4_68 := u68.v 4 h4_67 (by decide)
  clear h0_67 h1_67 h4_67 h95_67 h99_67 u68 F67
  change Code.wp _ _ _ _ _
  refine wp_cond_false h100_68 ?_
  refine wp_skip ?_
  change Code.wp _ _ _ _ _
  refine wp_seq ?_
  refine rg_list ?_
  refine wl_p (ex_mv (v := (.pointer (some ⟨b, 0, none⟩))) h0_68) (by rw [F68.size]; decide) fun a69 u69 (h109_69 : a69.tmps.getD 109 undef = (.pointer (some ⟨b, 0, none⟩))) => ?_
  have F69 := F68.pt u69
  have h4_69 := u69.v 4 h4_68 (by decide)
  clear h0_68 h1_68 h4_68 h100_68 u69 F68
  refine wl_p (ex_nil (ad := ⟨b, 0, none⟩) h109_69) (by rw [F69.size]; decide) fun a70 u70 (h110_70 : a70.tmps.getD 110 undef = (.pointer (some ⟨b, 0, none⟩))) => ?_
  have F70 := F69.pt u70
  have h4_70 := u70.v 4 h4_69 (by decide)
  clear h4_69 h109_69 u70 F69
  refine wl_p (ex_fa (T := 70) (f := 17) (k := 17) (b := b) (fun _ _ => by kernel_rfl) h110_70) (by rw [F70.size]; decide) fun a71 u71 (h111_71 : a71.tmps.getD 111 undef = (.pointer (some ⟨b, 17, none⟩))) => ?_
  have F71 := F70.pt u71
  have h4_71 := u71.v 4 h4_70 (by decide)
  clear h4_70 h110_70 u71 F70
  refine wl_cl (args := #[(.pointer (some ⟨b, 17, none⟩))]) (R := fun v w' => v = (.tuple #[]) ∧ (Blk w' b 70 #[(.float .f64 x), (.int .u64 seq), (.slice (some ⟨g, 0, none⟩) cap cap), c3, c4, c5, c6, c7, c8, c9, c10, c11, c12, (.int .u64 cap), (.int .u64 0), (.int .u64 (((0 : Int) + 1) % cap)), (.int .u64 (0 + 1)), (.slice none 0 0), (.int .i64 0), (.int .i8 0), c20, c21, c22] ∧ w8.grownBy w' (some b))) (ex_cl (fun _ _ => by kernel_rfl) (arg1 h111_71)) ((reset17 Bb_8).mono fun _ _ h => ⟨_, h.1, rfl, h.2⟩) (by rw [F71.size]; decide) ?_
  rintro v w9 ⟨rfl, Bb_9, G9⟩
  have Bg_9 := Bg_8.gk G9 hgb
  have Bq_9 := Bq_8.gk G9 hqb
  have Kp9 := Kp8.set G9 (Or.inl (by simp))
  intro a72 u72 h112_72
  have F72 := F71.pt u72
  have h4_72 := u72.v 4 h4_71 (by decide)
  clear h4_71 h111_71 u72 F71
  clear Bg_8 Bq_8 Kp8 Bb_8
  change Code.wp _ _ _ _ _
  refine wp_seq ?_
  refine rg_list ?_
  refine wl_p (ex_as (v := .nilIface) rfl) (by rw [F72.size]; decide) fun a73 u73 (h4_73 : a73.tmps.getD 4 undef = .nilIface) => ?_
  have F73 := F72.pt u73
  clear h4_72 h112_72 u73 F72
  change Code.wp _ _ _ _ _
  refine wp_ret ?_
  try simp only [Exit.then, Exit.inBlock]
  exact bodyPost_ret (v := .nilIface) ((results_tmp rfl _ _ _).trans (by rw [h4_73])) F73.defers ⟨rfl, Bb_9, Bg_9, Bq_9, Kp9⟩
theorem app_first_up {b g q cap seq x y : Nat} {arr : Array Value} {c3 c4 c5 c6 c7 c8 c9 c10 c11 c12 c20 c21 c22 s0 s1 s2 s4 s5 s6 s7 s8 s9 s10 : Value} {w0 : World} (hb : Blk w0 b 70 #[(.float .f64 x), (.int .u64 seq), (.slice (some ⟨g, 0, none⟩) cap cap), c3, c4, c5, c6, c7, c8, c9, c10, c11, c12, (.int .u64 cap), (.int .u64 0), (.int .u64 0), (.int .u64 0), (.slice none 0 0), (.int .i64 0), (.int .i8 0), c20, c21, c22]) (hg : Blk w0 g 74 arr) (hq : Blk w0 q 96 #[s0, s1, s2, (.float .f64 y), s4, s5, s6, s7, s8, s9, s10]) (hgb : g ≠ b) (hqb : q ≠ b) (hgq : g ≠ q) (hc0 : 0 < cap) (hc1 : cap ≤ 1024) (hin : 0 < arr.size) (hord : (FloatKind.f64.format.order x y == some .lt) = true) (hn : isNaN y = false) :
    Calls Tryz.prog 15 #[pt b, pt q] w0 fun e w' => e = .returned .nilIface ∧ Blk w' b 70 #[(.float .f64 (fceil y)), (.int .u64 seq), (.slice (some ⟨g, 0, none⟩) cap cap), c3, c4, c5, c6, c7, c8, c9, c10, c11, c12, (.int .u64 cap), (.int .u64 0), (.int .u64 (((0 : Int) + 1) % cap)), (.int .u64 (0 + 1)), (.slice none 0 0), (.int .i64 0), (.int .i8 0), c20, c21, c22] ∧ Blk w' g 74 (arr.setIfInBounds 0 (.pointer (some ⟨q, 0, none⟩))) ∧ Blk w' q 96 #[(.int .u64 seq), s1, s2, (.float .f64 y), s4, s5, s6, s7, s8, s9, s10] ∧ Kp [b, g, q] w0 w' := by
  refine calls_of_wp Tryz.func15 rfl ?_
  generalize hA : Act.mk _ _ = a0
  have F0 : Fz 113 a0 := by subst hA; exact ⟨by simp [Tryz.ntmps15], rfl⟩
  have h0_0 : a0.tmps.getD 0 undef = (.pointer (some ⟨b, 0, none⟩)) := by subst hA; exact fr_arg rfl
  have h1_0 : a0.tmps.getD 1 undef = (.pointer (some ⟨q, 0, none⟩)) := by subst hA; exact fr_arg rfl
  clear hA
  have Kp0 := Kp.refl [b, g, q] w0
  refine wp_seq ?_
  refine rg_list ?_
  refine wl_p (ex_as (v := .nilIface) rfl) (by rw [F0.size]; decide) fun a1 u1 (h4_1 : a1.tmps.getD 4 undef = .nilIface) => ?_
  have F1 := F0.pt u1
  have h0_1 := u1.v 0 h0_0 (by decide)
  have h1_1 := u1.v 1 h1_0 (by decide)
  clear h0_0 h1_0 u1 F0
  change Code.wp _ _ _ _ _
  refine wp_seq ?_
  refine wp_seq ?_
  obtain ⟨w1, hw1⟩ : ∃ w, w = w0.drew := ⟨_, rfl⟩
  have G1 : w0.grownBy w1 none := hw1 ▸ grown_drew _
  have Bb_1 := hb.gn G1
  have Bg_1 := hg.gn G1
  have Bq_1 := hq.gn G1
  have Kp1 := Kp0.new G1
  refine rg_still hw1 hmix (by kernel_rfl) ?_
  clear hb hg hq Kp0 hw1 G1
  refine st_p (ex_mv (v := (.pointer (some ⟨b, 0, none⟩))) h0_1) (by rw [F1.size]; decide) fun a2 u2 (h5_2 : a2.tmps.getD 5 undef = (.pointer (some ⟨b, 0, none⟩))) => ?_
  have F2 := F1.pt u2
  have h0_2 := u2.v 0 h0_1 (by decide)
  have h1_2 := u2.v 1 h1_1 (by decide)
  have h4_2 := u2.v 4 h4_1 (by decide)
  clear h0_1 h1_1 h4_1 u2 F1
  refine st_p (ex_nil (ad := ⟨b, 0, none⟩) h5_2) (by rw [F2.size]; decide) fun a3 u3 (h6_3 : a3.tmps.getD 6 undef = (.pointer (some ⟨b, 0, none⟩))) => ?_
  have F3 := F2.pt u3
  have h0_3 := u3.v 0 h0_2 (by decide)
  have h1_3 := u3.v 1 h1_2 (by decide)
  have h4_3 := u3.v 4 h4_2 (by decide)
  clear h0_2 h1_2 h4_2 h5_2 u3 F2
  refine st_p (ex_fa (T := 70) (f := 14) (k := 14) (b := b) (fun _ _ => by kernel_rfl) h6_3) (by rw [F3.size]; decide) fun a4 u4 (h7_4 : a4.tmps.getD 7 undef = (.pointer (some ⟨b, 14, none⟩))) => ?_
  have F4 := F3.pt u4
  have h0_4 := u4.v 0 h0_3 (by decide)
  have h1_4 := u4.v 1 h1_3 (by decide)
  have h4_4 := u4.v 4 h4_3 (by decide)
  clear h0_3 h1_3 h4_3 h6_3 u4 F3
  refine st_p (ex_ld (v := (.int .u64 0)) (ad := ⟨b, 14, none⟩) (fun _ => by kernel_rfl) h7_4 (Bb_1.cell 14)) (by rw [F4.size]; decide) fun a5 u5 (h8_5 : a5.tmps.getD 8 undef = (.int .u64 0)) => ?_
  have F5 := F4.pt u5
  have h0_5 := u5.v 0 h0_4 (by decide)
  have h1_5 := u5.v 1 h1_4 (by decide)
  have h4_5 := u5.v 4 h4_4 (by decide)
  clear h0_4 h1_4 h4_4 h7_4 u5 F4
  refine st_p (ex_mv (v := (.pointer (some ⟨b, 0, none⟩))) h0_5) (by rw [F5.size]; decide) fun a6 u6 (h9_6 : a6.tmps.getD 9 undef = (.pointer (some ⟨b, 0, none⟩))) => ?_
  have F6 := F5.pt u6
  have h0_6 := u6.v 0 h0_5 (by decide)
  have h1_6 := u6.v 1 h1_5 (by decide)
  have h4_6 := u6.v 4 h4_5 (by decide)
  have h8_6 := u6.v 8 h8_5 (by decide)
  clear h0_5 h1_5 h4_5 h8_5 u6 F5
  refine st_p (ex_nil (ad := ⟨b, 0, none⟩) h9_6) (by rw [F6.size]; decide) fun a7 u7 (h10_7 : a7.tmps.getD 10 undef = (.pointer (some ⟨b, 0, none⟩))) => ?_
  have F7 := F6.pt u7
  have h0_7 := u7.v 0 h0_6 (by decide)
  have h1_7 := u7.v 1 h1_6 (by decide)
  have h4_7 := u7.v 4 h4_6 (by decide)
  have h8_7 := u7.v 8 h8_6 (by decide)
  clear h0_6 h1_6 h4_6 h8_6 h9_6 u7 F6
  refine st_p (ex_fa (T := 70) (f := 15) (k := 15) (b := b) (fun _ _ => by kernel_rfl) h10_7) (by rw [F7.size]; decide) fun a8 u8 (h11_8 : a8.tmps.getD 11 undef = (.pointer (some ⟨b, 15, none⟩))) => ?_
  have F8 := F7.pt u8
  have h0_8 := u8.v 0 h0_7 (by decide)
  have h1_8 := u8.v 1 h1_7 (by decide)
  have h4_8 := u8.v 4 h4_7 (by decide)
  have h8_8 := u8.v 8 h8_7 (by decide)
  clear h0_7 h1_7 h4_7 h8_7 h10_7 u8 F7
  refine st_p (ex_ld (v := (.int .u64 0)) (ad := ⟨b, 15, none⟩) (fun _ => by kernel_rfl) h11_8 (Bb_1.cell 15)) (by rw [F8.size]; decide) fun a9 u9 (h12_9 : a9.tmps.getD 12 undef = (.int .u64 0)) => ?_
  have F9 := F8.pt u9
  have h0_9 := u9.v 0 h0_8 (by decide)
  have h1_9 := u9.v 1 h1_8 (by decide)
  have h4_9 := u9.v 4 h4_8 (by decide)
  have h8_9 := u9.v 8 h8_8 (by decide)
  clear h0_8 h1_8 h4_8 h8_8 h11_8 u9 F8
  refine st_p (ex_bin (vx := (.int .u64 0)) (vy := (.int .u64 0)) (v := (.bool true)) h8_9 h12_9 ((bo_eqlu _ _ _).trans (by rfl))) (by rw [F9.size]; decide) fun a10 u10 (h13_10 : a10.tmps.getD 13 undef = (.bool true)) => ?_
  have F10 := F9.pt u10
  have h0_10 := u10.v 0 h0_9 (by decide)
  have h1_10 := u10.v 1 h1_9 (by decide)
  have h4_10 := u10.v 4 h4_9 (by decide)
  clear h0_9 h1_9 h4_9 h8_9 h12_9 u10 F9
  refine st_p (ex_mv (v := (.bool true)) h13_10) (by rw [F10.size]; decide) fun a11 u11 (h14_11 : a11.tmps.getD 14 undef = (.bool true)) => ?_
  have F11 := F10.pt u11
  have h0_11 := u11.v 0 h0_10 (by decide)
  have h1_11 := u11.v 1 h1_10 (by decide)
  have h4_11 := u11.v 4 h4_10 (by decide)
  clear h0_10 h1_10 h4_10 h13_10 u11 F10
  refine st_g (yl (e := 14) rfl h14_11) (ex_mv (v := (.pointer (some ⟨b, 0, none⟩))) h0_11) (by rw [F11.size]; decide) fun a12 u12 (h15_12 : a12.tmps.getD 15 undef = (.pointer (some ⟨b, 0, none⟩))) => ?_
  have F12 := F11.pt u12
  have h0_12 := u12.v 0 h0_11 (by decide)
  have h1_12 := u12.v 1 h1_11 (by decide)
  have h4_12 := u12.v 4 h4_11 (by decide)
  have h14_12 := u12.v 14 h14_11 (by decide)
  clear h0_11 h1_11 h4_11 h14_11 u12 F11
  refine st_g (yl (e := 14) rfl h14_12) (ex_nil (ad := ⟨b, 0, none⟩) h15_12) (by rw [F12.size]; decide) fun a13 u13 (h16_13 : a13.tmps.getD 16 undef = (.pointer (some ⟨b, 0, none⟩))) => ?_
  have F13 := F12.pt u13
  have h0_13 := u13.v 0 h0_12 (by decide)
  have h1_13 := u13.v 1 h1_12 (by decide)
  have h4_13 := u13.v 4 h4_12 (by decide)
  have h14_13 := u13.v 14 h14_12 (by decide)
  clear h0_12 h1_12 h4_12 h14_12 h15_12 u13 F12
  refine st_g (yl (e := 14) rfl h14_13) (ex_fa (T := 70) (f := 16) (k := 16) (b := b) (fun _ _ => by kernel_rfl) h16_13) (by rw [F13.size]; decide) fun a14 u14 (h17_14 : a14.tmps.getD 17 undef = (.pointer (some ⟨b, 16, none⟩))) => ?_
  have F14 := F13.pt u14
  have h0_14 := u14.v 0 h0_13 (by decide)
  have h1_14 := u14.v 1 h1_13 (by decide)
  have h4_14 := u14.v 4 h4_13 (by decide)
  have h14_14 := u14.v 14 h14_13 (by decide)
  clear h0_13 h1_13 h4_13 h14_13 h16_13 u14 F13
  refine st_g (yl (e := 14) rfl h14_14) (ex_ld (v := (.int .u64 0)) (ad := ⟨b, 16, none⟩) (fun _ => by kernel_rfl) h17_14 (Bb_1.cell 16)) (by rw [F14.size]; decide) fun a15 u15 (h18_15 : a15.tmps.getD 18 undef = (.int .u64 0)) => ?_
  have F15 := F14.pt u15
  have h0_15 := u15.v 0 h0_14 (by decide)
  have h1_15 := u15.v 1 h1_14 (by decide)
  have h4_15 := u15.v 4 h4_14 (by decide)
  have h14_15 := u15.v 14 h14_14 (by decide)
  clear h0_14 h1_14 h4_14 h14_14 h17_14 u15 F14
  refine st_g (yl (e := 14) rfl h14_15) (ex_bin (vx := (.int .u64 0)) (vy := (.int .u64 0)) (v := (.bool false)) h18_15 rfl ((bo_gtru _ _ _).trans (by rfl))) (by rw [F15.size]; decide) fun a16 u16 (h19_16 : a16.tmps.getD 19 undef = (.bool false)) => ?_
  have F16 := F15.pt u16
  have h0_16 := u16.v 0 h0_15 (by decide)
  have h1_16 := u16.v 1 h1_15 (by decide)
  have h4_16 := u16.v 4 h4_15 (by decide)
  have h14_16 := u16.v 14 h14_15 (by decide)
  clear h0_15 h1_15 h4_15 h14_15 h18_15 u16 F15
  refine st_p (ex_pick (q := true) (v := (.bool false)) h14_16 h19_16) (by rw [F16.size]; decide) fun a17 u17 (h20_17 : a17.tmps.getD 20 undef = (.bool false)) => ?_
  have F17 := F16.pt u17
  have h0_17 := u17.v 0 h0_16 (by decide)
  have h1_17 := u17.v 1 h1_16 (by decide)
  have h4_17 := u17.v 4 h4_16 (by decide)
  have h14_17 := u17.v 14 h14_16 (by decide)
  clear h0_16 h1_16 h4_16 h14_16 h19_16 u17 F16
  change Code.wp _ _ _ _ _
  refine wp_cond_false h20_17 ?_
  refine wp_skip ?_
  change Code.wp _ _ _ _ _
  refine wp_seq ?_
  refine rg_list ?_
  refine wl_p (ex_mv (v := (.pointer (some ⟨q, 0, none⟩))) h1_17) (by rw [F17.size]; decide) fun a18 u18 (h22_18 : a18.tmps.getD 22 undef = (.pointer (some ⟨q, 0, none⟩))) => ?_
  have F18 := F17.pt u18
  have h0_18 := u18.v 0 h0_17 (by decide)
  have h1_18 := u18.v 1 h1_17 (by decide)
  have h4_18 := u18.v 4 h4_17 (by decide)
  clear h0_17 h1_17 h4_17 h14_17 h20_17 u18 F17
  refine wl_p (ex_mv (v := (.pointer (some ⟨b, 0, none⟩))) h0_18) (by rw [F18.size]; decide) fun a19 u19 (h23_19 : a19.tmps.getD 23 undef = (.pointer (some ⟨b, 0, none⟩))) => ?_
  have F19 := F18.pt u19
  have h0_19 := u19.v 0 h0_18 (by decide)
  have h1_19 := u19.v 1 h1_18 (by decide)
  have h4_19 := u19.v 4 h4_18 (by decide)
  have h22_19 := u19.v 22 h22_18 (by decide)
  clear h0_18 h1_18 h4_18 h22_18 u19 F18
  refine wl_p (ex_nil (ad := ⟨b, 0, none⟩) h23_19) (by rw [F19.size]; decide) fun a20 u20 (h24_20 : a20.tmps.getD 24 undef = (.pointer (some ⟨b, 0, none⟩))) => ?_
  have F20 := F19.pt u20
  have h0_20 := u20.v 0 h0_19 (by decide)
  have h1_20 := u20.v 1 h1_19 (by decide)
  have h4_20 := u20.v 4 h4_19 (by decide)
  have h22_20 := u20.v 22 h22_19 (by decide)
  clear h0_19 h1_19 h4_19 h22_19 h23_19 u20 F19
  refine wl_p (ex_fa (T := 70) (f := 1) (k := 1) (b := b) (fun _ _ => by kernel_rfl) h24_20) (by rw [F20.size]; decide) fun a21 u21 (h25_21 : a21.tmps.getD 25 undef = (.pointer (some ⟨b, 1, none⟩))) => ?_
  have F21 := F20.pt u21
  have h0_21 := u21.v 0 h0_20 (by decide)
  have h1_21 := u21.v 1 h1_20 (by decide)
  have h4_21 := u21.v 4 h4_20 (by decide)
  have h22_21 := u21.v 22 h22_20 (by decide)
  clear h0_20 h1_20 h4_20 h22_20 h24_20 u21 F20
  refine wl_p (ex_ld (v := (.int .u64 seq)) (ad := ⟨b, 1, none⟩) (fun _ => by kernel_rfl) h25_21 (Bb_1.cell 1)) (by rw [F21.size]; decide) fun a22 u22 (h26_22 : a22.tmps.getD 26 undef = (.int .u64 seq)) => ?_
  have F22 := F21.pt u22
  have h0_22 := u22.v 0 h0_21 (by decide)
  have h1_22 := u22.v 1 h1_21 (by decide)
  have h4_22 := u22.v 4 h4_21 (by decide)
  have h22_22 := u22.v 22 h22_21 (by decide)
  clear h0_21 h1_21 h4_21 h22_21 h25_21 u22 F21
  refine wl_p (ex_nil (ad := ⟨q, 0, none⟩) h22_22) (by rw [F22.size]; decide) fun a23 u23 (h27_23 : a23.tmps.getD 27 undef = (.pointer (some ⟨q, 0, none⟩))) => ?_
  have F23 := F22.pt u23
  have h0_23 := u23.v 0 h0_22 (by decide)
  have h1_23 := u23.v 1 h1_22 (by decide)
  have h4_23 := u23.v 4 h4_22 (by decide)
  have h26_23 := u23.v 26 h26_22 (by decide)
  clear h0_22 h1_22 h4_22 h22_22 h26_22 u23 F22
  refine wl_p (ex_fa (T := 96) (f := 0) (k := 0) (b := q) (fun _ _ => by kernel_rfl) h27_23) (by rw [F23.size]; decide) fun a24 u24 (h28_24 : a24.tmps.getD 28 undef = (.pointer (some ⟨q, 0, none⟩))) => ?_
  have F24 := F23.pt u24
  have h0_24 := u24.v 0 h0_23 (by decide)
  have h1_24 := u24.v 1 h1_23 (by decide)
  have h4_24 := u24.v 4 h4_23 (by decide)
  have h26_24 := u24.v 26 h26_23 (by decide)
  clear h0_23 h1_23 h4_23 h26_23 h27_23 u24 F23
  obtain ⟨w2, hr2, Bq_2, G2⟩ := st_run (T := 25) (o := 0) (v := (.int .u64 seq)) (cs' := #[(.int .u64 seq), s1, s2, (.float .f64 y), s4, s5, s6, s7, s8, s9, s10]) (fun _ => by kernel_rfl) Bq_1 rfl (by simp) rfl
  have Bb_2 := Bb_1.gk G2 (Ne.symm hqb)
  have Bg_2 := Bg_1.gk G2 hgq
  have Kp2 := Kp1.set G2 (Or.inl (by simp))
  refine wl_n (ex_st h28_24 h26_24 hr2) ?_
  clear Bb_1 Bg_1 Kp1 Bq_1 hr2 G2
  change Code.wp _ _ _ _ _
  refine wp_seq ?_
  refine wp_seq ?_
  refine rg_list ?_
  refine wl_p (ex_mv (v := (.pointer (some ⟨b, 0, none⟩))) h0_24) (by rw [F24.size]; decide) fun a25 u25 (h29_25 : a25.tmps.getD 29 undef = (.pointer (some ⟨b, 0, none⟩))) => ?_
  have F25 := F24.pt u25
  have h0_25 := u25.v 0 h0_24 (by decide)
  have h1_25 := u25.v 1 h1_24 (by decide)
  have h4_25 := u25.v 4 h4_24 (by decide)
  clear h0_24 h1_24 h4_24 h26_24 h28_24 u25 F24
  refine wl_p (ex_nil (ad := ⟨b, 0, none⟩) h29_25) (by rw [F25.size]; decide) fun a26 u26 (h30_26 : a26.tmps.getD 30 undef = (.pointer (some ⟨b, 0, none⟩))) => ?_
  have F26 := F25.pt u26
  have h0_26 := u26.v 0 h0_25 (by decide)
  have h1_26 := u26.v 1 h1_25 (by decide)
  have h4_26 := u26.v 4 h4_25 (by decide)
  clear h0_25 h1_25 h4_25 h29_25 u26 F25
  refine wl_p (ex_fa (T := 70) (f := 16) (k := 16) (b := b) (fun _ _ => by kernel_rfl) h30_26) (by rw [F26.size]; decide) fun a27 u27 (h31_27 : a27.tmps.getD 31 undef = (.pointer (some ⟨b, 16, none⟩))) => ?_
  have F27 := F26.pt u27
  have h0_27 := u27.v 0 h0_26 (by decide)
  have h1_27 := u27.v 1 h1_26 (by decide)
  have h4_27 := u27.v 4 h4_26 (by decide)
  clear h0_26 h1_26 h4_26 h30_26 u27 F26
  refine wl_p (ex_ld (v := (.int .u64 0)) (ad := ⟨b, 16, none⟩) (fun _ => by kernel_rfl) h31_27 (Bb_2.cell 16)) (by rw [F27.size]; decide) fun a28 u28 (h32_28 : a28.tmps.getD 32 undef = (.int .u64 0)) => ?_
  have F28 := F27.pt u28
  have h0_28 := u28.v 0 h0_27 (by decide)
  have h1_28 := u28.v 1 h1_27 (by decide)
  have h4_28 := u28.v 4 h4_27 (by decide)
  clear h0_27 h1_27 h4_27 h31_27 u28 F27
  refine wl_p (ex_bin (vx := (.int .u64 0)) (vy := (.int .u64 0)) (v := (.bool false)) h32_28 rfl ((bo_gtru _ _ _).trans (by rfl))) (by rw [F28.size]; decide) fun a29 u29 (h33_29 : a29.tmps.getD 33 undef = (.bool false)) => ?_
  have F29 := F28.pt u29
  have h0_29 := u29.v 0 h0_28 (by decide)
  have h1_29 := u29.v 1 h1_28 (by decide)
  have h4_29 := u29.v 4 h4_28 (by decide)
  clear h0_28 h1_28 h4_28 h32_28 u29 F28
  change Code.wp _ _ _ _ _
  refine wp_cond_false h33_29 ?_
  refine wp_skip ?_
  change Code.wp _ _ _ _ _
  refine wp_seq ?_
  obtain ⟨w3, hw3⟩ : ∃ w, w = w2.drew := ⟨_, rfl⟩
  have G3 : w2.grownBy w3 none := hw3 ▸ grown_drew _
  have Bb_3 := Bb_2.gn G3
  have Bg_3 := Bg_2.gn G3
  have Bq_3 := Bq_2.gn G3
  have Kp3 := Kp2.new G3
  refine rg_stillt 10 hw3 hmix (by kernel_rfl) ?_
  clear Bb_2 Bg_2 Bq_2 Kp2 hw3 G3
  refine st_p (ex_mv (v := (.pointer (some ⟨b, 0, none⟩))) h0_29) (by rw [F29.size]; decide) fun a30 u30 (h62_30 : a30.tmps.getD 62 undef = (.pointer (some ⟨b, 0, none⟩))) => ?_
  have F30 := F29.pt u30
  have h0_30 := u30.v 0 h0_29 (by decide)
  have h1_30 := u30.v 1 h1_29 (by decide)
  have h4_30 := u30.v 4 h4_29 (by decide)
  clear h0_29 h1_29 h4_29 h33_29 u30 F29
  refine st_p (ex_nil (ad := ⟨b, 0, none⟩) h62_30) (by rw [F30.size]; decide) fun a31 u31 (h63_31 : a31.tmps.getD 63 undef = (.pointer (some ⟨b, 0, none⟩))) => ?_
  have F31 := F30.pt u31
  have h0_31 := u31.v 0 h0_30 (by decide)
  have h1_31 := u31.v 1 h1_30 (by decide)
  have h4_31 := u31.v 4 h4_30 (by decide)
  clear h0_30 h1_30 h4_30 h62_30 u31 F30
  refine st_p (ex_fa (T := 70) (f := 2) (k := 2) (b := b) (fun _ _ => by kernel_rfl) h63_31) (by rw [F31.size]; decide) fun a32 u32 (h64_32 : a32.tmps.getD 64 undef = (.pointer (some ⟨b, 2, none⟩))) => ?_
  have F32 := F31.pt u32
  have h0_32 := u32.v 0 h0_31 (by decide)
  have h1_32 := u32.v 1 h1_31 (by decide)
  have h4_32 := u32.v 4 h4_31 (by decide)
  clear h0_31 h1_31 h4_31 h63_31 u32 F31
  refine st_p (ex_ld (v := (.slice (some ⟨g, 0, none⟩) cap cap)) (ad := ⟨b, 2, none⟩) (fun _ => by kernel_rfl) h64_32 (Bb_3.cell 2)) (by rw [F32.size]; decide) fun a33 u33 (h65_33 : a33.tmps.getD 65 undef = (.slice (some ⟨g, 0, none⟩) cap cap)) => ?_
  have F33 := F32.pt u33
  have h0_33 := u33.v 0 h0_32 (by decide)
  have h1_33 := u33.v 1 h1_32 (by decide)
  have h4_33 := u33.v 4 h4_32 (by decide)
  clear h0_32 h1_32 h4_32 h64_32 u33 F32
  refine st_p (ex_mv (v := (.pointer (some ⟨b, 0, none⟩))) h0_33) (by rw [F33.size]; decide) fun a34 u34 (h66_34 : a34.tmps.getD 66 undef = (.pointer (some ⟨b, 0, none⟩))) => ?_
  have F34 := F33.pt u34
  have h0_34 := u34.v 0 h0_33 (by decide)
  have h1_34 := u34.v 1 h1_33 (by decide)
  have h4_34 := u34.v 4 h4_33 (by decide)
  have h65_34 := u34.v 65 h65_33 (by decide)
  clear h0_33 h1_33 h4_33 h65_33 u34 F33
  refine st_p (ex_nil (ad := ⟨b, 0, none⟩) h66_34) (by rw [F34.size]; decide) fun a35 u35 (h67_35 : a35.tmps.getD 67 undef = (.pointer (some ⟨b, 0, none⟩))) => ?_
  have F35 := F34.pt u35
  have h0_35 := u35.v 0 h0_34 (by decide)
  have h1_35 := u35.v 1 h1_34 (by decide)
  have h4_35 := u35.v 4 h4_34 (by decide)
  have h65_35 := u35.v 65 h65_34 (by decide)
  clear h0_34 h1_34 h4_34 h65_34 h66_34 u35 F34
  refine st_p (ex_fa (T := 70) (f := 15) (k := 15) (b := b) (fun _ _ => by kernel_rfl) h67_35) (by rw [F35.size]; decide) fun a36 u36 (h68_36 : a36.tmps.getD 68 undef = (.pointer (some ⟨b, 15, none⟩))) => ?_
  have F36 := F35.pt u36
  have h0_36 := u36.v 0 h0_35 (by decide)
  have h1_36 := u36.v 1 h1_35 (by decide)
  have h4_36 := u36.v 4 h4_35 (by decide)
  have h65_36 := u36.v 65 h65_35 (by decide)
  clear h0_35 h1_35 h4_35 h65_35 h67_35 u36 F35
  refine st_p (ex_ld (v := (.int .u64 0)) (ad := ⟨b, 15, none⟩) (fun _ => by kernel_rfl) h68_36 (Bb_3.cell 15)) (by rw [F36.size]; decide) fun a37 u37 (h69_37 : a37.tmps.getD 69 undef = (.int .u64 0)) => ?_
  have F37 := F36.pt u37
  have h0_37 := u37.v 0 h0_36 (by decide)
  have h1_37 := u37.v 1 h1_36 (by decide)
  have h4_37 := u37.v 4 h4_36 (by decide)
  have h65_37 := u37.v 65 h65_36 (by decide)
  clear h0_36 h1_36 h4_36 h65_36 h68_36 u37 F36
  refine st_p (ex_mv (v := (.pointer (some ⟨q, 0, none⟩))) h1_37) (by rw [F37.size]; decide) fun a38 u38 (h70_38 : a38.tmps.getD 70 undef = (.pointer (some ⟨q, 0, none⟩))) => ?_
  have F38 := F37.pt u38
  have h0_38 := u38.v 0 h0_37 (by decide)
  have h1_38 := u38.v 1 h1_37 (by decide)
  have h4_38 := u38.v 4 h4_37 (by decide)
  have h65_38 := u38.v 65 h65_37 (by decide)
  have h69_38 := u38.v 69 h69_37 (by decide)
  clear h0_37 h1_37 h4_37 h65_37 h69_37 u38 F37
  refine st_p (ex_ixg (vx := (.slice (some ⟨g, 0, none⟩) cap cap)) (vy := (.int .u64 0)) (v := (.pointer (some ⟨g, 0, none⟩))) h65_38 h69_38 (ix_run g cap 0 (by omega) _)) (by rw [F38.size]; decide) fun a39 u39 (h71_39 : a39.tmps.getD 71 undef = (.pointer (some ⟨g, 0, none⟩))) => ?_
  have F39 := F38.pt u39
  have h0_39 := u39.v 0 h0_38 (by decide)
  have h1_39 := u39.v 1 h1_38 (by decide)
  have h4_39 := u39.v 4 h4_38 (by decide)
  have h70_39 := u39.v 70 h70_38 (by decide)
  clear h0_38 h1_38 h4_38 h65_38 h69_38 h70_38 u39 F38
  obtain ⟨w4, hr4, Bg_4, G4⟩ := st_run (T := 74) (o := 0) (v := (.pointer (some ⟨q, 0, none⟩))) (cs' := (arr.setIfInBounds 0 (.pointer (some ⟨q, 0, none⟩)))) (fun _ => by kernel_rfl) Bg_3 rfl (hin) rfl
  have Bb_4 := Bb_3.gk G4 (Ne.symm hgb)
  have Bq_4 := Bq_3.gk G4 (Ne.symm hgq)
  have Kp4 := Kp3.set G4 (Or.inl (by simp))
  refine wl_n (ex_st h71_39 h70_39 hr4) ?_
  clear Bb_3 Bq_3 Kp3 Bg_3 hr4 G4
  change Code.wp _ _ _ _ _
  refine wp_seq ?_
  obtain ⟨w5, hw5⟩ : ∃ w, w = w4.drew := ⟨_, rfl⟩
  have G5 : w4.grownBy w5 none := hw5 ▸ grown_drew _
  have Bb_5 := Bb_4.gn G5
  have Bg_5 := Bg_4.gn G5
  have Bq_5 := Bq_4.gn G5
  have Kp5 := Kp4.new G5
  refine rg_stillt 13 hw5 hmix (by kernel_rfl) ?_
  clear Bb_4 Bg_4 Bq_4 Kp4 hw5 G5
  refine st_p (ex_mv (v := (.pointer (some ⟨b, 0, none⟩))) h0_39) (by rw [F39.size]; decide) fun a40 u40 (h72_40 : a40.tmps.getD 72 undef = (.pointer (some ⟨b, 0, none⟩))) => ?_
  have F40 := F39.pt u40
  have h0_40 := u40.v 0 h0_39 (by decide)
  have h1_40 := u40.v 1 h1_39 (by decide)
  have h4_40 := u40.v 4 h4_39 (by decide)
  clear h0_39 h1_39 h4_39 h70_39 h71_39 u40 F39
  refine st_p (ex_mv (v := (.pointer (some ⟨b, 0, none⟩))) h0_40) (by rw [F40.size]; decide) fun a41 u41 (h73_41 : a41.tmps.getD 73 undef = (.pointer (some ⟨b, 0, none⟩))) => ?_
  have F41 := F40.pt u41
  have h0_41 := u41.v 0 h0_40 (by decide)
  have h1_41 := u41.v 1 h1_40 (by decide)
  have h4_41 := u41.v 4 h4_40 (by decide)
  have h72_41 := u41.v 72 h72_40 (by decide)
  clear h0_40 h1_40 h4_40 h72_40 u41 F40
  refine st_p (ex_nil (ad := ⟨b, 0, none⟩) h73_41) (by rw [F41.size]; decide) fun a42 u42 (h74_42 : a42.tmps.getD 74 undef = (.pointer (some ⟨b, 0, none⟩))) => ?_
  have F42 := F41.pt u42
  have h0_42 := u42.v 0 h0_41 (by decide)
  have h1_42 := u42.v 1 h1_41 (by decide)
  have h4_42 := u42.v 4 h4_41 (by decide)
  have h72_42 := u42.v 72 h72_41 (by decide)
  clear h0_41 h1_41 h4_41 h72_41 h73_41 u42 F41
  refine st_p (ex_fa (T := 70) (f := 15) (k := 15) (b := b) (fun _ _ => by kernel_rfl) h74_42) (by rw [F42.size]; decide) fun a43 u43 (h75_43 : a43.tmps.getD 75 undef = (.pointer (some ⟨b, 15, none⟩))) => ?_
  have F43 := F42.pt u43
  have h0_43 := u43.v 0 h0_42 (by decide)
  have h1_43 := u43.v 1 h1_42 (by decide)
  have h4_43 := u43.v 4 h4_42 (by decide)
  have h72_43 := u43.v 72 h72_42 (by decide)
  clear h0_42 h1_42 h4_42 h72_42 h74_42 u43 F42
  refine st_p (ex_ld (v := (.int .u64 0)) (ad := ⟨b, 15, none⟩) (fun _ => by kernel_rfl) h75_43 (Bb_5.cell 15)) (by rw [F43.size]; decide) fun a44 u44 (h76_44 : a44.tmps.getD 76 undef = (.int .u64 0)) => ?_
  have F44 := F43.pt u44
  have h0_44 := u44.v 0 h0_43 (by decide)
  have h1_44 := u44.v 1 h1_43 (by decide)
  have h4_44 := u44.v 4 h4_43 (by decide)
  have h72_44 := u44.v 72 h72_43 (by decide)
  clear h0_43 h1_43 h4_43 h72_43 h75_43 u44 F43
  refine st_p (ex_bin (vx := (.int .u64 0)) (vy := (.int .u64 1)) (v := (.int .u64 (0 + 1))) h76_44 rfl (bo_addu _ _ _ (by omega) (by omega))) (by rw [F44.size]; decide) fun a45 u45 (h77_45 : a45.tmps.getD 77 undef = (.int .u64 (0 + 1))) => ?_
  have F45 := F44.pt u45
  have h0_45 := u45.v 0 h0_44 (by decide)
  have h1_45 := u45.v 1 h1_44 (by decide)
  have h4_45 := u45.v 4 h4_44 (by decide)
  have h72_45 := u45.v 72 h72_44 (by decide)
  clear h0_44 h1_44 h4_44 h72_44 h76_44 u45 F44
  refine st_p (ex_mv (v := (.pointer (some ⟨b, 0, none⟩))) h0_45) (by rw [F45.size]; decide) fun a46 u46 (h78_46 : a46.tmps.getD 78 undef = (.pointer (some ⟨b, 0, none⟩))) => ?_
  have F46 := F45.pt u46
  have h0_46 := u46.v 0 h0_45 (by decide)
  have h1_46 := u46.v 1 h1_45 (by decide)
  have h4_46 := u46.v 4 h4_45 (by decide)
  have h72_46 := u46.v 72 h72_45 (by decide)
  have h77_46 := u46.v 77 h77_45 (by decide)
  clear h0_45 h1_45 h4_45 h72_45 h77_45 u46 F45
  refine st_p (ex_nil (ad := ⟨b, 0, none⟩) h78_46) (by rw [F46.size]; decide) fun a47 u47 (h79_47 : a47.tmps.getD 79 undef = (.pointer (some ⟨b, 0, none⟩))) => ?_
  have F47 := F46.pt u47
  have h0_47 := u47.v 0 h0_46 (by decide)
  have h1_47 := u47.v 1 h1_46 (by decide)
  have h4_47 := u47.v 4 h4_46 (by decide)
  have h72_47 := u47.v 72 h72_46 (by decide)
  have h77_47 := u47.v 77 h77_46 (by decide)
  clear h0_46 h1_46 h4_46 h72_46 h77_46 h78_46 u47 F46
  refine st_p (ex_fa (T := 70) (f := 13) (k := 13) (b := b) (fun _ _ => by kernel_rfl) h79_47) (by rw [F47.size]; decide) fun a48 u48 (h80_48 : a48.tmps.getD 80 undef = (.pointer (some ⟨b, 13, none⟩))) => ?_
  have F48 := F47.pt u48
  have h0_48 := u48.v 0 h0_47 (by decide)
  have h1_48 := u48.v 1 h1_47 (by decide)
  have h4_48 := u48.v 4 h4_47 (by decide)
  have h72_48 := u48.v 72 h72_47 (by decide)
  have h77_48 := u48.v 77 h77_47 (by decide)
  clear h0_47 h1_47 h4_47 h72_47 h77_47 h79_47 u48 F47
  refine st_p (ex_ld (v := (.int .u64 cap)) (ad := ⟨b, 13, none⟩) (fun _ => by kernel_rfl) h80_48 (Bb_5.cell 13)) (by rw [F48.size]; decide) fun a49 u49 (h81_49 : a49.tmps.getD 81 undef = (.int .u64 cap)) => ?_
  have F49 := F48.pt u49
  have h0_49 := u49.v 0 h0_48 (by decide)
  have h1_49 := u49.v 1 h1_48 (by decide)
  have h4_49 := u49.v 4 h4_48 (by decide)
  have h72_49 := u49.v 72 h72_48 (by decide)
  have h77_49 := u49.v 77 h77_48 (by decide)
  clear h0_48 h1_48 h4_48 h72_48 h77_48 h80_48 u49 F48
  refine st_p (ex_bin (vx := (.int .u64 (0 + 1))) (vy := (.int .u64 cap)) (v := (.int .u64 (((0 : Int) + 1) % cap))) h77_49 h81_49 (bo_remu _ _ _ (by omega) (by omega) (by omega))) (by rw [F49.size]; decide) fun a50 u50 (h82_50 : a50.tmps.getD 82 undef = (.int .u64 (((0 : Int) + 1) % cap))) => ?_
  have F50 := F49.pt u50
  have h0_50 := u50.v 0 h0_49 (by decide)
  have h1_50 := u50.v 1 h1_49 (by decide)
  have h4_50 := u50.v 4 h4_49 (by decide)
  have h72_50 := u50.v 72 h72_49 (by decide)
  clear h0_49 h1_49 h4_49 h72_49 h77_49 h81_49 u50 F49
  refine st_p (ex_nil (ad := ⟨b, 0, none⟩) h72_50) (by rw [F50.size]; decide) fun a51 u51 (h83_51 : a51.tmps.getD 83 undef = (.pointer (some ⟨b, 0, none⟩))) => ?_
  have F51 := F50.pt u51
  have h0_51 := u51.v 0 h0_50 (by decide)
  have h1_51 := u51.v 1 h1_50 (by decide)
  have h4_51 := u51.v 4 h4_50 (by decide)
  have h82_51 := u51.v 82 h82_50 (by decide)
  clear h0_50 h1_50 h4_50 h72_50 h82_50 u51 F50
  refine st_p (ex_fa (T := 70) (f := 15) (k := 15) (b := b) (fun _ _ => by kernel_rfl) h83_51) (by rw [F51.size]; decide) fun a52 u52 (h84_52 : a52.tmps.getD 84 undef = (.pointer (some ⟨b, 15, none⟩))) => ?_
  have F52 := F51.pt u52
  have h0_52 := u52.v 0 h0_51 (by decide)
  have h1_52 := u52.v 1 h1_51 (by decide)
  have h4_52 := u52.v 4 h4_51 (by decide)
  have h82_52 := u52.v 82 h82_51 (by decide)
  clear h0_51 h1_51 h4_51 h82_51 h83_51 u52 F51
  obtain ⟨w6, hr6, Bb_6, G6⟩ := st_run (T := 50) (o := 15) (v := (.int .u64 (((0 : Int) + 1) % cap))) (cs' := #[(.float .f64 x), (.int .u64 seq), (.slice (some ⟨g, 0, none⟩) cap cap), c3, c4, c5, c6, c7, c8, c9, c10, c11, c12, (.int .u64 cap), (.int .u64 0), (.int .u64 (((0 : Int) + 1) % cap)), (.int .u64 0), (.slice none 0 0), (.int .i64 0), (.int .i8 0), c20, c21, c22]) (fun _ => by kernel_rfl) Bb_5 rfl (by simp) rfl
  have Bg_6 := Bg_5.gk G6 hgb
  have Bq_6 := Bq_5.gk G6 hqb
  have Kp6 := Kp5.set G6 (Or.inl (by simp))
  refine wl_n (ex_st h84_52 h82_52 hr6) ?_
  clear Bg_5 Bq_5 Kp5 Bb_5 hr6 G6
  change Code.wp _ _ _ _ _
  refine wp_seq ?_
  refine rg_list ?_
  refine wl_p (ex_mv (v := (.pointer (some ⟨b, 0, none⟩))) h0_52) (by rw [F52.size]; decide) fun a53 u53 (h85_53 : a53.tmps.getD 85 undef = (.pointer (some ⟨b, 0, none⟩))) => ?_
  have F53 := F52.pt u53
  have h0_53 := u53.v 0 h0_52 (by decide)
  have h1_53 := u53.v 1 h1_52 (by decide)
  have h4_53 := u53.v 4 h4_52 (by decide)
  clear h0_52 h1_52 h4_52 h82_52 h84_52 u53 F52
  refine wl_p (ex_nil (ad := ⟨b, 0, none⟩) h85_53) (by rw [F53.size]; decide) fun a54 u54 (h86_54 : a54.tmps.getD 86 undef = (.pointer (some ⟨b, 0, none⟩))) => ?_
  have F54 := F53.pt u54
  have h0_54 := u54.v 0 h0_53 (by decide)
  have h1_54 := u54.v 1 h1_53 (by decide)
  have h4_54 := u54.v 4 h4_53 (by decide)
  have h85_54 := u54.v 85 h85_53 (by decide)
  clear h0_53 h1_53 h4_53 h85_53 u54 F53
  refine wl_p (ex_fa (T := 70) (f := 16) (k := 16) (b := b) (fun _ _ => by kernel_rfl) h86_54) (by rw [F54.size]; decide) fun a55 u55 (h87_55 : a55.tmps.getD 87 undef = (.pointer (some ⟨b, 16, none⟩))) => ?_
  have F55 := F54.pt u55
  have h0_55 := u55.v 0 h0_54 (by decide)
  have h1_55 := u55.v 1 h1_54 (by decide)
  have h4_55 := u55.v 4 h4_54 (by decide)
  have h85_55 := u55.v 85 h85_54 (by decide)
  clear h0_54 h1_54 h4_54 h85_54 h86_54 u55 F54
  refine wl_p (ex_ld (v := (.int .u64 0)) (ad := ⟨b, 16, none⟩) (fun _ => by kernel_rfl) h87_55 (Bb_6.cell 16)) (by rw [F55.size]; decide) fun a56 u56 (h88_56 : a56.tmps.getD 88 undef = (.int .u64 0)) => ?_
  have F56 := F55.pt u56
  have h0_56 := u56.v 0 h0_55 (by decide)
  have h1_56 := u56.v 1 h1_55 (by decide)
  have h4_56 := u56.v 4 h4_55 (by decide)
  have h85_56 := u56.v 85 h85_55 (by decide)
  clear h0_55 h1_55 h4_55 h85_55 h87_55 u56 F55
  refine wl_p (ex_bin (vx := (.int .u64 0)) (vy := (.int .u64 1)) (v := (.int .u64 (0 + 1))) h88_56 rfl (bo_addu _ _ _ (by omega) (by omega))) (by rw [F56.size]; decide) fun a57 u57 (h89_57 : a57.tmps.getD 89 undef = (.int .u64 (0 + 1))) => ?_
  have F57 := F56.pt u57
  have h0_57 := u57.v 0 h0_56 (by decide)
  have h1_57 := u57.v 1 h1_56 (by decide)
  have h4_57 := u57.v 4 h4_56 (by decide)
  have h85_57 := u57.v 85 h85_56 (by decide)
  clear h0_56 h1_56 h4_56 h85_56 h88_56 u57 F56
  refine wl_p (ex_nil (ad := ⟨b, 0, none⟩) h85_57) (by rw [F57.size]; decide) fun a58 u58 (h90_58 : a58.tmps.getD 90 undef = (.pointer (some ⟨b, 0, none⟩))) => ?_
  have F58 := F57.pt u58
  have h0_58 := u58.v 0 h0_57 (by decide)
  have h1_58 := u58.v 1 h1_57 (by decide)
  have h4_58 := u58.v 4 h4_57 (by decide)
  have h89_58 := u58.v 89 h89_57 (by decide)
  clear h0_57 h1_57 h4_57 h85_57 h89_57 u58 F57
  refine wl_p (ex_fa (T := 70) (f := 16) (k := 16) (b := b) (fun _ _ => by kernel_rfl) h90_58) (by rw [F58.size]; decide) fun a59 u59 (h91_59 : a59.tmps.getD 91 undef = (.pointer (some ⟨b, 16, none⟩))) => ?_
  have F59 := F58.pt u59
  have h0_59 := u59.v 0 h0_58 (by decide)
  have h1_59 := u59.v 1 h1_58 (by decide)
  have h4_59 := u59.v 4 h4_58 (by decide)
  have h89_59 := u59.v 89 h89_58 (by decide)
  clear h0_58 h1_58 h4_58 h89_58 h90_58 u59 F58
  obtain ⟨w7, hr7, Bb_7, G7⟩ := st_run (T := 50) (o := 16) (v := (.int .u64 (0 + 1))) (cs' := #[(.float .f64 x), (.int .u64 seq), (.slice (some ⟨g, 0, none⟩) cap cap), c3, c4, c5, c6, c7, c8, c9, c10, c11, c12, (.int .u64 cap), (.int .u64 0), (.int .u64 (((0 : Int) + 1) % cap)), (.int .u64 (0 + 1)), (.slice none 0 0), (.int .i64 0), (.int .i8 0), c20, c21, c22]) (fun _ => by kernel_rfl) Bb_6 rfl (by simp) rfl
  have Bg_7 := Bg_6.gk G7 hgb
  have Bq_7 := Bq_6.gk G7 hqb
  have Kp7 := Kp6.set G7 (Or.inl (by simp))
  refine wl_n (ex_st h91_59 h89_59 hr7) ?_
  clear Bg_6 Bq_6 Kp6 Bb_6 hr7 G7
  change Code.wp _ _ _ _ _
  refine wp_seq ?_
  refine wp_seq ?_
  obtain ⟨w8, hw8⟩ : ∃ w, w = w7.drew := ⟨_, rfl⟩
  have G8 : w7.grownBy w8 none := hw8 ▸ grown_drew _
  have Bb_8 := Bb_7.gn G8
  have Bg_8 := Bg_7.gn G8
  have Bq_8 := Bq_7.gn G8
  have Kp8 := Kp7.new G8
  refine rg_still hw8 hmix (by kernel_rfl) ?_
  clear Bb_7 Bg_7 Bq_7 Kp7 hw8 G8
  refine st_p (ex_mv (v := (.pointer (some ⟨b, 0, none⟩))) h0_59) (by rw [F59.size]; decide) fun a60 u60 (h92_60 : a60.tmps.getD 92 undef = (.pointer (some ⟨b, 0, none⟩))) => ?_
  have F60 := F59.pt u60
  have h0_60 := u60.v 0 h0_59 (by decide)
  have h1_60 := u60.v 1 h1_59 (by decide)
  have h4_60 := u60.v 4 h4_59 (by decide)
  clear h0_59 h1_59 h4_59 h89_59 h91_59 u60 F59
  refine st_p (ex_nil (ad := ⟨b, 0, none⟩) h92_60) (by rw [F60.size]; decide) fun a61 u61 (h93_61 : a61.tmps.getD 93 undef = (.pointer (some ⟨b, 0, none⟩))) => ?_
  have F61 := F60.pt u61
  have h0_61 := u61.v 0 h0_60 (by decide)
  have h1_61 := u61.v 1 h1_60 (by decide)
  have h4_61 := u61.v 4 h4_60 (by decide)
  clear h0_60 h1_60 h4_60 h92_60 u61 F60
  refine st_p (ex_fa (T := 70) (f := 0) (k := 0) (b := b) (fun _ _ => by kernel_rfl) h93_61) (by rw [F61.size]; decide) fun a62 u62 (h94_62 : a62.tmps.getD 94 undef = (.pointer (some ⟨b, 0, none⟩))) => ?_
  have F62 := F61.pt u62
  have h0_62 := u62.v 0 h0_61 (by decide)
  have h1_62 := u62.v 1 h1_61 (by decide)
  have h4_62 := u62.v 4 h4_61 (by decide)
  clear h0_61 h1_61 h4_61 h93_61 u62 F61
  refine st_p (ex_ld (v := (.float .f64 x)) (ad := ⟨b, 0, none⟩) (fun _ => by kernel_rfl) h94_62 (Bb_8.cell 0)) (by rw [F62.size]; decide) fun a63 u63 (h95_63 : a63.tmps.getD 95 undef = (.float .f64 x)) => ?_
  have F63 := F62.pt u63
  have h0_63 := u63.v 0 h0_62 (by decide)
  have h1_63 := u63.v 1 h1_62 (by decide)
  have h4_63 := u63.v 4 h4_62 (by decide)
  clear h0_62 h1_62 h4_62 h94_62 u63 F62
  refine st_p (ex_mv (v := (.pointer (some ⟨q, 0, none⟩))) h1_63) (by rw [F63.size]; decide) fun a64 u64 (h96_64 : a64.tmps.getD 96 undef = (.pointer (some ⟨q, 0, none⟩))) => ?_
  have F64 := F63.pt u64
  have h0_64 := u64.v 0 h0_63 (by decide)
  have h1_64 := u64.v 1 h1_63 (by decide)
  have h4_64 := u64.v 4 h4_63 (by decide)
  have h95_64 := u64.v 95 h95_63 (by decide)
  clear h0_63 h1_63 h4_63 h95_63 u64 F63
  refine st_p (ex_nil (ad := ⟨q, 0, none⟩) h96_64) (by rw [F64.size]; decide) fun a65 u65 (h97_65 : a65.tmps.getD 97 undef = (.pointer (some ⟨q, 0, none⟩))) => ?_
  have F65 := F64.pt u65
  have h0_65 := u65.v 0 h0_64 (by decide)
  have h1_65 := u65.v 1 h1_64 (by decide)
  have h4_65 := u65.v 4 h4_64 (by decide)
  have h95_65 := u65.v 95 h95_64 (by decide)
  clear h0_64 h1_64 h4_64 h95_64 h96_64 u65 F64
  refine st_p (ex_fa (T := 96) (f := 3) (k := 3) (b := q) (fun _ _ => by kernel_rfl) h97_65) (by rw [F65.size]; decide) fun a66 u66 (h98_66 : a66.tmps.getD 98 undef = (.pointer (some ⟨q, 3, none⟩))) => ?_
  have F66 := F65.pt u66
  have h0_66 := u66.v 0 h0_65 (by decide)
  have h1_66 := u66.v 1 h1_65 (by decide)
  have h4_66 := u66.v 4 h4_65 (by decide)
  have h95_66 := u66.v 95 h95_65 (by decide)
  clear h0_65 h1_65 h4_65 h95_65 h97_65 u66 F65
  refine st_p (ex_ld (v := (.float .f64 y)) (ad := ⟨q, 3, none⟩) (fun _ => by kernel_rfl) h98_66 (Bq_8.cell 3)) (by rw [F66.size]; decide) fun a67 u67 (h99_67 : a67.tmps.getD 99 undef = (.float .f64 y)) => ?_
  have F67 := F66.pt u67
  have h0_67 := u67.v 0 h0_66 (by decide)
  have h1_67 := u67.v 1 h1_66 (by decide)
  have h4_67 := u67.v 4 h4_66 (by decide)
  have h95_67 := u67.v 95 h95_66 (by decide)
  clear h0_66 h1_66 h4_66 h95_66 h98_66 u67 F66
  refine st_p (ex_bin (vx := (.float .f64 x)) (vy := (.float .f64 y)) (v := (.bool true)) h95_67 h99_67 ((bo_lssf _ _ _).trans (by rw [hord]))) (by rw [F67.size]; decide) fun a68 u68 (h100_68 : a68.tmps.getD 100 undef = (.bool true)) => ?_
  have F68 := F67.pt u68
  have h0_68 := u68.v 0 h0_67 (by decide)
  have h1_68 := u68.v 1 h1_67 (by decide)
  have h4_68 := u68.v 4 h4_67 (by decide)
  clear h0_67 h1_67 h4_67 h95_67 h99_67 u68 F67
  change Code.wp _ _ _ _ _
  refine wp_cond_true h100_68 ?_
  refine rg_list ?_
  refine wl_p (ex_mv (v := (.pointer (some ⟨b, 0, none⟩))) h0_68) (by rw [F68.size]; decide) fun a69 u69 (h101_69 : a69.tmps.getD 101 undef = (.pointer (some ⟨b, 0, none⟩))) => ?_
  have F69 := F68.pt u69
  have h0_69 := u69.v 0 h0_68 (by decide)
  have h1_69 := u69.v 1 h1_68 (by decide)
  have h4_69 := u69.v 4 h4_68 (by decide)
  clear h0_68 h1_68 h4_68 h100_68 u69 F68
  refine wl_p (ex_mv (v := (.pointer (some ⟨q, 0, none⟩))) h1_69) (by rw [F69.size]; decide) fun a70 u70 (h102_70 : a70.tmps.getD 102 undef = (.pointer (some ⟨q, 0, none⟩))) => ?_
  have F70 := F69.pt u70
  have h0_70 := u70.v 0 h0_69 (by decide)
  have h4_70 := u70.v 4 h4_69 (by decide)
  have h101_70 := u70.v 101 h101_69 (by decide)
  clear h0_69 h1_69 h4_69 h101_69 u70 F69
  refine wl_p (ex_nil (ad := ⟨q, 0, none⟩) h102_70) (by rw [F70.size]; decide) fun a71 u71 (h103_71 : a71.tmps.getD 103 undef = (.pointer (some ⟨q, 0, none⟩))) => ?_
  have F71 := F70.pt u71
  have h0_71 := u71.v 0 h0_70 (by decide)
  have h4_71 := u71.v 4 h4_70 (by decide)
  have h101_71 := u71.v 101 h101_70 (by decide)
  clear h0_70 h4_70 h101_70 h102_70 u71 F70
  refine wl_p (ex_fa (T := 96) (f := 3) (k := 3) (b := q) (fun _ _ => by kernel_rfl) h103_71) (by rw [F71.size]; decide) fun a72 u72 (h104_72 : a72.tmps.getD 104 undef = (.pointer (some ⟨q, 3, none⟩))) => ?_
  have F72 := F71.pt u72
  have h0_72 := u72.v 0 h0_71 (by decide)
  have h4_72 := u72.v 4 h4_71 (by decide)
  have h101_72 := u72.v 101 h101_71 (by decide)
  clear h0_71 h4_71 h101_71 h103_71 u72 F71
  refine wl_p (ex_ld (v := (.float .f64 y)) (ad := ⟨q, 3, none⟩) (fun _ => by kernel_rfl) h104_72 (Bq_8.cell 3)) (by rw [F72.size]; decide) fun a73 u73 (h105_73 : a73.tmps.getD 105 undef = (.float .f64 y)) => ?_
  have F73 := F72.pt u73
  have h0_73 := u73.v 0 h0_72 (by decide)
  have h4_73 := u73.v 4 h4_72 (by decide)
  have h101_73 := u73.v 101 h101_72 (by decide)
  clear h0_72 h4_72 h101_72 h104_72 u73 F72
  refine wl_cl (args := #[(.float .f64 y)]) (R := fun v w' => v = (.float .f64 (fceil y)) ∧ (w8 = w')) (ex_cl (fun _ _ => by kernel_rfl) (arg1 h105_73)) ((ceil_any y hn _).mono fun _ _ h => ⟨_, h.1, rfl, h.2⟩) (by rw [F73.size]; decide) ?_
  rintro v w' ⟨rfl, rfl⟩
  intro a74 u74 h106_74
  have F74 := F73.pt u74
  have h0_74 := u74.v 0 h0_73 (by decide)
  have h4_74 := u74.v 4 h4_73 (by decide)
  have h101_74 := u74.v 101 h101_73 (by decide)
  clear h0_73 h4_73 h101_73 h105_73 u74 F73
  refine wl_p (ex_nil (ad := ⟨b, 0, none⟩) h101_74) (by rw [F74.size]; decide) fun a75 u75 (h107_75 : a75.tmps.getD 107 undef = (.pointer (some ⟨b, 0, none⟩))) => ?_
  have F75 := F74.pt u75
  have h0_75 := u75.v 0 h0_74 (by decide)
  have h4_75 := u75.v 4 h4_74 (by decide)
  have h106_75 := u75.v 106 h106_74 (by decide)
  clear h0_74 h4_74 h101_74 h106_74 u75 F74
  refine wl_p (ex_fa (T := 70) (f := 0) (k := 0) (b := b) (fun _ _ => by kernel_rfl) h107_75) (by rw [F75.size]; decide) fun a76 u76 (h108_76 : a76.tmps.getD 108 undef = (.pointer (some ⟨b, 0, none⟩))) => ?_
  have F76 := F75.pt u76
  have h0_76 := u76.v 0 h0_75 (by decide)
  have h4_76 := u76.v 4 h4_75 (by decide)
  have h106_76 := u76.v 106 h106_75 (by decide)
  clear h0_75 h4_75 h106_75 h107_75 u76 F75
  obtain ⟨w9, hr9, Bb_9, G9⟩ := st_run (T := 24) (o := 0) (v := (.float .f64 (fceil y))) (cs' := #[(.float .f64 (fceil y)), (.int .u64 seq), (.slice (some ⟨g, 0, none⟩) cap cap), c3, c4, c5, c6, c7, c8, c9, c10, c11, c12, (.int .u64 cap), (.int .u64 0), (.int .u64 (((0 : Int) + 1) % cap)), (.int .u64 (0 + 1)), (.slice none 0 0), (.int .i64 0), (.int .i8 0), c20, c21, c22]) (fun _ => by kernel_rfl) Bb_8 rfl (by simp) rfl
  have Bg_9 := Bg_8.gk G9 hgb
  have Bq_9 := Bq_8.gk G9 hqb
  have Kp9 := Kp8.set G9 (Or.inl (by simp))
  refine wl_n (ex_st h108_76 h106_76 hr9) ?_
  clear Bg_8 Bq_8 Kp8 Bb_8 hr9 G9
  change Code.wp _ _ _ _ _
  refine wp_seq ?_
  refine rg_list ?_
  refine wl_p (ex_mv (v := (.pointer (some ⟨b, 0, none⟩))) h0_76) (by rw [F76.size]; decide) fun a77 u77 (h109_77 : a77.tmps.getD 109 undef = (.pointer (some ⟨b, 0, none⟩))) => ?_
  have F77 := F76.pt u77
  have h4_77 := u77.v 4 h4_76 (by decide)
  clear h0_76 h4_76 h106_76 h108_76 u77 F76
  refine wl_p (ex_nil (ad := ⟨b, 0, none⟩) h109_77) (by rw [F77.size]; decide) fun a78 u78 (h110_78 : a78.tmps.getD 110 undef = (.pointer (some ⟨b, 0, none⟩))) => ?_
  have F78 := F77.pt u78
  have h4_78 := u78.v 4 h4_77 (by decide)
  clear h4_77 h109_77 u78 F77
  refine wl_p (ex_fa (T := 70) (f := 17) (k := 17) (b := b) (fun _ _ => by kernel_rfl) h110_78) (by rw [F78.size]; decide) fun a79 u79 (h111_79 : a79.tmps.getD 111 undef = (.pointer (some ⟨b, 17, none⟩))) => ?_
  have F79 := F78.pt u79
  have h4_79 := u79.v 4 h4_78 (by decide)
  clear h4_78 h110_78 u79 F78
  refine wl_cl (args := #[(.pointer (some ⟨b, 17, none⟩))]) (R := fun v w' => v = (.tuple #[]) ∧ (Blk w' b 70 #[(.float .f64 (fceil y)), (.int .u64 seq), (.slice (some ⟨g, 0, none⟩) cap cap), c3, c4, c5, c6, c7, c8, c9, c10, c11, c12, (.int .u64 cap), (.int .u64 0), (.int .u64 (((0 : Int) + 1) % cap)), (.int .u64 (0 + 1)), (.slice none 0 0), (.int .i64 0), (.int .i8 0), c20, c21, c22] ∧ w9.grownBy w' (some b))) (ex_cl (fun _ _ => by kernel_rfl) (arg1 h111_79)) ((reset17 Bb_9).mono fun _ _ h => ⟨_, h.1, rfl, h.2⟩) (by rw [F79.size]; decide) ?_
  rintro v w10 ⟨rfl, Bb_10, G10⟩
  have Bg_10 := Bg_9.gk G10 hgb
  have Bq_10 := Bq_9.gk G10 hqb
  have Kp10 := Kp9.set G10 (Or.inl (by simp))
  intro a80 u80 h112_80
  have F80 := F79.pt u80
  have h4_80 := u80.v 4 h4_79 (by decide)
  clear h4_79 h111_79 u80 F79
  clear Bg_9 Bq_9 Kp9 Bb_9
  change Code.wp _ _ _ _ _
  refine wp_seq ?_
  refine rg_list ?_
  refine wl_p (ex_as (v := .nilIface) rfl) (by rw [F80.size]; decide) fun a81 u81 (h4_81 : a81.tmps.getD 4 undef = .nilIface) => ?_
  have F81 := F80.pt u81
  clear h4_80 h112_80 u81 F80
  change Code.wp _ _ _ _ _
  refine wp_ret ?_
  try simp only [Exit.then, Exit.inBlock]
  exact bodyPost_ret (v := .nilIface) ((results_tmp rfl _ _ _).trans (by rw [h4_81])) F81.defers ⟨rfl, Bb_10, Bg_10, Bq_10, Kp10⟩
theorem app_more {b g q cap seq x y t j v num : Nat} {arr : Array Value} {c3 c4 c5 c6 c7 c8 c9 c10 c11 c12 c20 c21 c22 s0 s1 s2 s4 s5 s6 s7 s8 s9 s10 : Value} {w0 : World} (hb : Blk w0 b 70 #[(.float .f64 x), (.int .u64 seq), (.slice (some ⟨g, 0, none⟩) cap cap), c3, c4, c5, c6, c7, c8, c9, c10, c11, c12, (.int .u64 cap), (.int .u64 0), (.int .u64 t), (.int .u64 t), (.slice none 0 0), (.int .i64 0), (.int .i8 0), c20, c21, c22]) (hg : Blk w0 g 74 arr) (hq : Blk w0 q 96 #[s0, s1, s2, (.float .f64 y), s4, s5, s6, s7, s8, s9, s10]) (hgb : g ≠ b) (hqb : q ≠ b) (hgq : g ≠ q) (hc0 : 0 < cap) (hc1 : cap ≤ 1024) {v1 v2 v3 v4 v5 v6 v7 v8 v9 v10 : Value} (hv : Blk w0 v 96 #[(.int .u64 num), v1, v2, v3, v4, v5, v6, v7, v8, v9, v10]) (hvb : v ≠ b) (hvq : v ≠ q) (hgv : g ≠ v) (htj : t = j + 1) (htc : t < cap) (hin : t < arr.size) (harr : arr[j]? = some (pt v)) (hnum : num < 18446744073709551615) (hord : (FloatKind.f64.format.order x y == some .lt) = false) :
    Calls Tryz.prog 15 #[pt b, pt q] w0 fun e w' => e = .returned .nilIface ∧ Blk w' b 70 #[(.float .f64 x), (.int .u64 seq), (.slice (some ⟨g, 0, none⟩) cap cap), c3, c4, c5, c6, c7, c8, c9, c10, c11, c12, (.int .u64 cap), (.int .u64 0), (.int .u64 ((t + 1) % cap)), (.int .u64 (t + 1)), (.slice none 0 0), (.int .i64 0), (.int .i8 0), c20, c21, c22] ∧ Blk w' g 74 (arr.setIfInBounds t (.pointer (some ⟨q, 0, none⟩))) ∧ Blk w' q 96 #[(.int .u64 (num + 1)), s1, s2, (.float .f64 y), s4, s5, s6, s7, s8, s9, s10] ∧ Kp [b, g, q] w0 w' := by
  refine calls_of_wp Tryz.func15 rfl ?_
  generalize hA : Act.mk _ _ = a0
  have F0 : Fz 113 a0 := by subst hA; exact ⟨by simp [Tryz.ntmps15], rfl⟩
  have h0_0 : a0.tmps.getD 0 undef = (.pointer (some ⟨b, 0, none⟩)) := by subst hA; exact fr_arg rfl
  have h1_0 : a0.tmps.getD 1 undef = (.pointer (some ⟨q, 0, none⟩)) := by subst hA; exact fr_arg rfl
  clear hA
  have Kp0 := Kp.refl [b, g, q] w0
  refine wp_seq ?_
  refine rg_list ?_
  refine wl_p (ex_as (v := .nilIface) rfl) (by rw [F0.size]; decide) fun a1 u1 (h4_1 : a1.tmps.getD 4 undef = .nilIface) => ?_
  have F1 := F0.pt u1
  have h0_1 := u1.v 0 h0_0 (by decide)
  have h1_1 := u1.v 1 h1_0 (by decide)
  clear h0_0 h1_0 u1 F0
  change Code.wp _ _ _ _ _
  refine wp_seq ?_
  refine wp_seq ?_
  obtain ⟨w1, hw1⟩ : ∃ w, w = w0.drew := ⟨_, rfl⟩
  have G1 : w0.grownBy w1 none := hw1 ▸ grown_drew _
  have Bb_1 := hb.gn G1
  have Bg_1 := hg.gn G1
  have Bq_1 := hq.gn G1
  have Bv_1 := hv.gn G1
  have Kp1 := Kp0.new G1
  refine rg_still hw1 hmix (by kernel_rfl) ?_
  clear hb hg hq hv Kp0 hw1 G1
  refine st_p (ex_mv (v := (.pointer (some ⟨b, 0, none⟩))) h0_1) (by rw [F1.size]; decide) fun a2 u2 (h5_2 : a2.tmps.getD 5 undef = (.pointer (some ⟨b, 0, none⟩))) => ?_
  have F2 := F1.pt u2
  have h0_2 := u2.v 0 h0_1 (by decide)
  have h1_2 := u2.v 1 h1_1 (by decide)
  have h4_2 := u2.v 4 h4_1 (by decide)
  clear h0_1 h1_1 h4_1 u2 F1
  refine st_p (ex_nil (ad := ⟨b, 0, none⟩) h5_2) (by rw [F2.size]; decide) fun a3 u3 (h6_3 : a3.tmps.getD 6 undef = (.pointer (some ⟨b, 0, none⟩))) => ?_
  have F3 := F2.pt u3
  have h0_3 := u3.v 0 h0_2 (by decide)
  have h1_3 := u3.v 1 h1_2 (by decide)
  have h4_3 := u3.v 4 h4_2 (by decide)
  clear h0_2 h1_2 h4_2 h5_2 u3 F2
  refine st_p (ex_fa (T := 70) (f := 14) (k := 14) (b := b) (fun _ _ => by kernel_rfl) h6_3) (by rw [F3.size]; decide) fun a4 u4 (h7_4 : a4.tmps.getD 7 undef = (.pointer (some ⟨b, 14, none⟩))) => ?_
  have F4 := F3.pt u4
  have h0_4 := u4.v 0 h0_3 (by decide)
  have h1_4 := u4.v 1 h1_3 (by decide)
  have h4_4 := u4.v 4 h4_3 (by decide)
  clear h0_3 h1_3 h4_3 h6_3 u4 F3
  refine st_p (ex_ld (v := (.int .u64 0)) (ad := ⟨b, 14, none⟩) (fun _ => by kernel_rfl) h7_4 (Bb_1.cell 14)) (by rw [F4.size]; decide) fun a5 u5 (h8_5 : a5.tmps.getD 8 undef = (.int .u64 0)) => ?_
  have F5 := F4.pt u5
  have h0_5 := u5.v 0 h0_4 (by decide)
  have h1_5 := u5.v 1 h1_4 (by decide)
  have h4_5 := u5.v 4 h4_4 (by decide)
  clear h0_4 h1_4 h4_4 h7_4 u5 F4
  refine st_p (ex_mv (v := (.pointer (some ⟨b, 0, none⟩))) h0_5) (by rw [F5.size]; decide) fun a6 u6 (h9_6 : a6.tmps.getD 9 undef = (.pointer (some ⟨b, 0, none⟩))) => ?_
  have F6 := F5.pt u6
  have h0_6 := u6.v 0 h0_5 (by decide)
  have h1_6 := u6.v 1 h1_5 (by decide)
  have h4_6 := u6.v 4 h4_5 (by decide)
  have h8_6 := u6.v 8 h8_5 (by decide)
  clear h0_5 h1_5 h4_5 h8_5 u6 F5
  refine st_p (ex_nil (ad := ⟨b, 0, none⟩) h9_6) (by rw [F6.size]; decide) fun a7 u7 (h10_7 : a7.tmps.getD 10 undef = (.pointer (some ⟨b, 0, none⟩))) => ?_
  have F7 := F6.pt u7
  have h0_7 := u7.v 0 h0_6 (by decide)
  have h1_7 := u7.v 1 h1_6 (by decide)
  have h4_7 := u7.v 4 h4_6 (by decide)
  have h8_7 := u7.v 8 h8_6 (by decide)
  clear h0_6 h1_6 h4_6 h8_6 h9_6 u7 F6
  refine st_p (ex_fa (T := 70) (f := 15) (k := 15) (b := b) (fun _ _ => by kernel_rfl) h10_7) (by rw [F7.size]; decide) fun a8 u8 (h11_8 : a8.tmps.getD 11 undef = (.pointer (some ⟨b, 15, none⟩))) => ?_
  have F8 := F7.pt u8
  have h0_8 := u8.v 0 h0_7 (by decide)
  have h1_8 := u8.v 1 h1_7 (by decide)
  have h4_8 := u8.v 4 h4_7 (by decide)
  have h8_8 := u8.v 8 h8_7 (by decide)
  clear h0_7 h1_7 h4_7 h8_7 h10_7 u8 F7
  refine st_p (ex_ld (v := (.int .u64 t)) (ad := ⟨b, 15, none⟩) (fun _ => by kernel_rfl) h11_8 (Bb_1.cell 15)) (by rw [F8.size]; decide) fun a9 u9 (h12_9 : a9.tmps.getD 12 undef = (.int .u64 t)) => ?_
  have F9 := F8.pt u9
  have h0_9 := u9.v 0 h0_8 (by decide)
  have h1_9 := u9.v 1 h1_8 (by decide)
  have h4_9 := u9.v 4 h4_8 (by decide)
  have h8_9 := u9.v 8 h8_8 (by decide)
  clear h0_8 h1_8 h4_8 h8_8 h11_8 u9 F8
  refine st_p (ex_bin (vx := (.int .u64 0)) (vy := (.int .u64 t)) (v := (.bool false)) h8_9 h12_9 ((bo_eqlu _ _ _).trans (by rw [show ((0 : Int) == (t : Int)) = false from by simp; omega]))) (by rw [F9.size]; decide) fun a10 u10 (h13_10 : a10.tmps.getD 13 undef = (.bool false)) => ?_
  have F10 := F9.pt u10
  have h0_10 := u10.v 0 h0_9 (by decide)
  have h1_10 := u10.v 1 h1_9 (by decide)
  have h4_10 := u10.v 4 h4_9 (by decide)
  clear h0_9 h1_9 h4_9 h8_9 h12_9 u10 F9
  refine st_p (ex_mv (v := (.bool false)) h13_10) (by rw [F10.size]; decide) fun a11 u11 (h14_11 : a11.tmps.getD 14 undef = (.bool false)) => ?_
  have F11 := F10.pt u11
  have h0_11 := u11.v 0 h0_10 (by decide)
  have h1_11 := u11.v 1 h1_10 (by decide)
  have h4_11 := u11.v 4 h4_10 (by decide)
  clear h0_10 h1_10 h4_10 h13_10 u11 F10
  refine st_k (yl (e := 14) rfl h14_11) (by decide) (by rw [F11.size]; decide) fun a12 u12 h15_12 => ?_
  have F12 := F11.pt u12
  have h0_12 := u12.v 0 h0_11 (by decide)
  have h1_12 := u12.v 1 h1_11 (by decide)
  have h4_12 := u12.v 4 h4_11 (by decide)
  have h14_12 := u12.v 14 h14_11 (by decide)
  clear h0_11 h1_11 h4_11 h14_11 u12 F11
  refine st_k (yl (e := 14) rfl h14_12) (by decide) (by rw [F12.size]; decide) fun a13 u13 h16_13 => ?_
  have F13 := F12.pt u13
  have h0_13 := u13.v 0 h0_12 (by decide)
  have h1_13 := u13.v 1 h1_12 (by decide)
  have h4_13 := u13.v 4 h4_12 (by decide)
  have h14_13 := u13.v 14 h14_12 (by decide)
  clear h0_12 h1_12 h4_12 h14_12 h15_12 u13 F12
  refine st_k (yl (e := 14) rfl h14_13) (by decide) (by rw [F13.size]; decide) fun a14 u14 h17_14 => ?_
  have F14 := F13.pt u14
  have h0_14 := u14.v 0 h0_13 (by decide)
  have h1_14 := u14.v 1 h1_13 (by decide)
  have h4_14 := u14.v 4 h4_13 (by decide)
  have h14_14 := u14.v 14 h14_13 (by decide)
  clear h0_13 h1_13 h4_13 h14_13 h16_13 u14 F13
  refine st_k (yl (e := 14) rfl h14_14) (by decide) (by rw [F14.size]; decide) fun a15 u15 h18_15 => ?_
  have F15 := F14.pt u15
  have h0_15 := u15.v 0 h0_14 (by decide)
  have h1_15 := u15.v 1 h1_14 (by decide)
  have h4_15 := u15.v 4 h4_14 (by decide)
  have h14_15 := u15.v 14 h14_14 (by decide)
  clear h0_14 h1_14 h4_14 h14_14 h17_14 u15 F14
  refine st_k (yl (e := 14) rfl h14_15) (by decide) (by rw [F15.size]; decide) fun a16 u16 h19_16 => ?_
  have F16 := F15.pt u16
  have h0_16 := u16.v 0 h0_15 (by decide)
  have h1_16 := u16.v 1 h1_15 (by decide)
  have h4_16 := u16.v 4 h4_15 (by decide)
  have h14_16 := u16.v 14 h14_15 (by decide)
  clear h0_15 h1_15 h4_15 h14_15 h18_15 u16 F15
  refine st_p (ex_pick (q := false) (v := (.bool false)) h14_16 rfl) (by rw [F16.size]; decide) fun a17 u17 (h20_17 : a17.tmps.getD 20 undef = (.bool false)) => ?_
  have F17 := F16.pt u17
  have h0_17 := u17.v 0 h0_16 (by decide)
  have h1_17 := u17.v 1 h1_16 (by decide)
  have h4_17 := u17.v 4 h4_16 (by decide)
  have h14_17 := u17.v 14 h14_16 (by decide)
  clear h0_16 h1_16 h4_16 h14_16 h19_16 u17 F16
  change Code.wp _ _ _ _ _
  refine wp_cond_false h20_17 ?_
  refine wp_skip ?_
  change Code.wp _ _ _ _ _
  refine wp_seq ?_
  refine rg_list ?_
  refine wl_p (ex_mv (v := (.pointer (some ⟨q, 0, none⟩))) h1_17) (by rw [F17.size]; decide) fun a18 u18 (h22_18 : a18.tmps.getD 22 undef = (.pointer (some ⟨q, 0, none⟩))) => ?_
  have F18 := F17.pt u18
  have h0_18 := u18.v 0 h0_17 (by decide)
  have h1_18 := u18.v 1 h1_17 (by decide)
  have h4_18 := u18.v 4 h4_17 (by decide)
  clear h0_17 h1_17 h4_17 h14_17 h20_17 u18 F17
  refine wl_p (ex_mv (v := (.pointer (some ⟨b, 0, none⟩))) h0_18) (by rw [F18.size]; decide) fun a19 u19 (h23_19 : a19.tmps.getD 23 undef = (.pointer (some ⟨b, 0, none⟩))) => ?_
  have F19 := F18.pt u19
  have h0_19 := u19.v 0 h0_18 (by decide)
  have h1_19 := u19.v 1 h1_18 (by decide)
  have h4_19 := u19.v 4 h4_18 (by decide)
  have h22_19 := u19.v 22 h22_18 (by decide)
  clear h0_18 h1_18 h4_18 h22_18 u19 F18
  refine wl_p (ex_nil (ad := ⟨b, 0, none⟩) h23_19) (by rw [F19.size]; decide) fun a20 u20 (h24_20 : a20.tmps.getD 24 undef = (.pointer (some ⟨b, 0, none⟩))) => ?_
  have F20 := F19.pt u20
  have h0_20 := u20.v 0 h0_19 (by decide)
  have h1_20 := u20.v 1 h1_19 (by decide)
  have h4_20 := u20.v 4 h4_19 (by decide)
  have h22_20 := u20.v 22 h22_19 (by decide)
  clear h0_19 h1_19 h4_19 h22_19 h23_19 u20 F19
  refine wl_p (ex_fa (T := 70) (f := 1) (k := 1) (b := b) (fun _ _ => by kernel_rfl) h24_20) (by rw [F20.size]; decide) fun a21 u21 (h25_21 : a21.tmps.getD 25 undef = (.pointer (some ⟨b, 1, none⟩))) => ?_
  have F21 := F20.pt u21
  have h0_21 := u21.v 0 h0_20 (by decide)
  have h1_21 := u21.v 1 h1_20 (by decide)
  have h4_21 := u21.v 4 h4_20 (by decide)
  have h22_21 := u21.v 22 h22_20 (by decide)
  clear h0_20 h1_20 h4_20 h22_20 h24_20 u21 F20
  refine wl_p (ex_ld (v := (.int .u64 seq)) (ad := ⟨b, 1, none⟩) (fun _ => by kernel_rfl) h25_21 (Bb_1.cell 1)) (by rw [F21.size]; decide) fun a22 u22 (h26_22 : a22.tmps.getD 26 undef = (.int .u64 seq)) => ?_
  have F22 := F21.pt u22
  have h0_22 := u22.v 0 h0_21 (by decide)
  have h1_22 := u22.v 1 h1_21 (by decide)
  have h4_22 := u22.v 4 h4_21 (by decide)
  have h22_22 := u22.v 22 h22_21 (by decide)
  clear h0_21 h1_21 h4_21 h22_21 h25_21 u22 F21
  refine wl_p (ex_nil (ad := ⟨q, 0, none⟩) h22_22) (by rw [F22.size]; decide) fun a23 u23 (h27_23 : a23.tmps.getD 27 undef = (.pointer (some ⟨q, 0, none⟩))) => ?_
  have F23 := F22.pt u23
  have h0_23 := u23.v 0 h0_22 (by decide)
  have h1_23 := u23.v 1 h1_22 (by decide)
  have h4_23 := u23.v 4 h4_22 (by decide)
  have h26_23 := u23.v 26 h26_22 (by decide)
  clear h0_22 h1_22 h4_22 h22_22 h26_22 u23 F22
  refine wl_p (ex_fa (T := 96) (f := 0) (k := 0) (b := q) (fun _ _ => by kernel_rfl) h27_23) (by rw [F23.size]; decide) fun a24 u24 (h28_24 : a24.tmps.getD 28 undef = (.pointer (some ⟨q, 0, none⟩))) => ?_
  have F24 := F23.pt u24
  have h0_24 := u24.v 0 h0_23 (by decide)
  have h1_24 := u24.v 1 h1_23 (by decide)
  have h4_24 := u24.v 4 h4_23 (by decide)
  have h26_24 := u24.v 26 h26_23 (by decide)
  clear h0_23 h1_23 h4_23 h26_23 h27_23 u24 F23
  obtain ⟨w2, hr2, Bq_2, G2⟩ := st_run (T := 25) (o := 0) (v := (.int .u64 seq)) (cs' := #[(.int .u64 seq), s1, s2, (.float .f64 y), s4, s5, s6, s7, s8, s9, s10]) (fun _ => by kernel_rfl) Bq_1 rfl (by simp) rfl
  have Bb_2 := Bb_1.gk G2 (Ne.symm hqb)
  have Bg_2 := Bg_1.gk G2 hgq
  have Bv_2 := Bv_1.gk G2 hvq
  have Kp2 := Kp1.set G2 (Or.inl (by simp))
  refine wl_n (ex_st h28_24 h26_24 hr2) ?_
  clear Bb_1 Bg_1 Bv_1 Kp1 Bq_1 hr2 G2
  change Code.wp _ _ _ _ _
  refine wp_seq ?_
  refine wp_seq ?_
  refine rg_list ?_
  refine wl_p (ex_mv (v := (.pointer (some ⟨b, 0, none⟩))) h0_24) (by rw [F24.size]; decide) fun a25 u25 (h29_25 : a25.tmps.getD 29 undef = (.pointer (some ⟨b, 0, none⟩))) => ?_
  have F25 := F24.pt u25
  have h0_25 := u25.v 0 h0_24 (by decide)
  have h1_25 := u25.v 1 h1_24 (by decide)
  have h4_25 := u25.v 4 h4_24 (by decide)
  clear h0_24 h1_24 h4_24 h26_24 h28_24 u25 F24
  refine wl_p (ex_nil (ad := ⟨b, 0, none⟩) h29_25) (by rw [F25.size]; decide) fun a26 u26 (h30_26 : a26.tmps.getD 30 undef = (.pointer (some ⟨b, 0, none⟩))) => ?_
  have F26 := F25.pt u26
  have h0_26 := u26.v 0 h0_25 (by decide)
  have h1_26 := u26.v 1 h1_25 (by decide)
  have h4_26 := u26.v 4 h4_25 (by decide)
  clear h0_25 h1_25 h4_25 h29_25 u26 F25
  refine wl_p (ex_fa (T := 70) (f := 16) (k := 16) (b := b) (fun _ _ => by kernel_rfl) h30_26) (by rw [F26.size]; decide) fun a27 u27 (h31_27 : a27.tmps.getD 31 undef = (.pointer (some ⟨b, 16, none⟩))) => ?_
  have F27 := F26.pt u27
  have h0_27 := u27.v 0 h0_26 (by decide)
  have h1_27 := u27.v 1 h1_26 (by decide)
  have h4_27 := u27.v 4 h4_26 (by decide)
  clear h0_26 h1_26 h4_26 h30_26 u27 F26
  refine wl_p (ex_ld (v := (.int .u64 t)) (ad := ⟨b, 16, none⟩) (fun _ => by kernel_rfl) h31_27 (Bb_2.cell 16)) (by rw [F27.size]; decide) fun a28 u28 (h32_28 : a28.tmps.getD 32 undef = (.int .u64 t)) => ?_
  have F28 := F27.pt u28
  have h0_28 := u28.v 0 h0_27 (by decide)
  have h1_28 := u28.v 1 h1_27 (by decide)
  have h4_28 := u28.v 4 h4_27 (by decide)
  clear h0_27 h1_27 h4_27 h31_27 u28 F27
  refine wl_p (ex_bin (vx := (.int .u64 t)) (vy := (.int .u64 0)) (v := (.bool true)) h32_28 rfl ((bo_gtru _ _ _).trans (by rw [decide_eq_true (by omega)]))) (by rw [F28.size]; decide) fun a29 u29 (h33_29 : a29.tmps.getD 33 undef = (.bool true)) => ?_
  have F29 := F28.pt u29
  have h0_29 := u29.v 0 h0_28 (by decide)
  have h1_29 := u29.v 1 h1_28 (by decide)
  have h4_29 := u29.v 4 h4_28 (by decide)
  clear h0_28 h1_28 h4_28 h32_28 u29 F28
  change Code.wp _ _ _ _ _
  refine wp_cond_true h33_29 ?_
  obtain ⟨w3, hw3⟩ : ∃ w, w = w2.drew := ⟨_, rfl⟩
  have G3 : w2.grownBy w3 none := hw3 ▸ grown_drew _
  have Bb_3 := Bb_2.gn G3
  have Bg_3 := Bg_2.gn G3
  have Bq_3 := Bq_2.gn G3
  have Bv_3 := Bv_2.gn G3
  have Kp3 := Kp2.new G3
  refine rg_stillt 28 hw3 hmix (by kernel_rfl) ?_
  clear Bb_2 Bg_2 Bq_2 Bv_2 Kp2 hw3 G3
  refine st_p (ex_mv (v := (.pointer (some ⟨q, 0, none⟩))) h1_29) (by rw [F29.size]; decide) fun a30 u30 (h34_30 : a30.tmps.getD 34 undef = (.pointer (some ⟨q, 0, none⟩))) => ?_
  have F30 := F29.pt u30
  have h0_30 := u30.v 0 h0_29 (by decide)
  have h1_30 := u30.v 1 h1_29 (by decide)
  have h4_30 := u30.v 4 h4_29 (by decide)
  clear h0_29 h1_29 h4_29 h33_29 u30 F29
  refine st_p (ex_mv (v := (.pointer (some ⟨b, 0, none⟩))) h0_30) (by rw [F30.size]; decide) fun a31 u31 (h35_31 : a31.tmps.getD 35 undef = (.pointer (some ⟨b, 0, none⟩))) => ?_
  have F31 := F30.pt u31
  have h0_31 := u31.v 0 h0_30 (by decide)
  have h1_31 := u31.v 1 h1_30 (by decide)
  have h4_31 := u31.v 4 h4_30 (by decide)
  have h34_31 := u31.v 34 h34_30 (by decide)
  clear h0_30 h1_30 h4_30 h34_30 u31 F30
  refine st_p (ex_nil (ad := ⟨b, 0, none⟩) h35_31) (by rw [F31.size]; decide) fun a32 u32 (h36_32 : a32.tmps.getD 36 undef = (.pointer (some ⟨b, 0, none⟩))) => ?_
  have F32 := F31.pt u32
  have h0_32 := u32.v 0 h0_31 (by decide)
  have h1_32 := u32.v 1 h1_31 (by decide)
  have h4_32 := u32.v 4 h4_31 (by decide)
  have h34_32 := u32.v 34 h34_31 (by decide)
  clear h0_31 h1_31 h4_31 h34_31 h35_31 u32 F31
  refine st_p (ex_fa (T := 70) (f := 2) (k := 2) (b := b) (fun _ _ => by kernel_rfl) h36_32) (by rw [F32.size]; decide) fun a33 u33 (h37_33 : a33.tmps.getD 37 undef = (.pointer (some ⟨b, 2, none⟩))) => ?_
  have F33 := F32.pt u33
  have h0_33 := u33.v 0 h0_32 (by decide)
  have h1_33 := u33.v 1 h1_32 (by decide)
  have h4_33 := u33.v 4 h4_32 (by decide)
  have h34_33 := u33.v 34 h34_32 (by decide)
  clear h0_32 h1_32 h4_32 h34_32 h36_32 u33 F32
  refine st_p (ex_ld (v := (.slice (some ⟨g, 0, none⟩) cap cap)) (ad := ⟨b, 2, none⟩) (fun _ => by kernel_rfl) h37_33 (Bb_3.cell 2)) (by rw [F33.size]; decide) fun a34 u34 (h38_34 : a34.tmps.getD 38 undef = (.slice (some ⟨g, 0, none⟩) cap cap)) => ?_
  have F34 := F33.pt u34
  have h0_34 := u34.v 0 h0_33 (by decide)
  have h1_34 := u34.v 1 h1_33 (by decide)
  have h4_34 := u34.v 4 h4_33 (by decide)
  have h34_34 := u34.v 34 h34_33 (by decide)
  clear h0_33 h1_33 h4_33 h34_33 h37_33 u34 F33
  refine st_p (ex_mv (v := (.pointer (some ⟨b, 0, none⟩))) h0_34) (by rw [F34.size]; decide) fun a35 u35 (h39_35 : a35.tmps.getD 39 undef = (.pointer (some ⟨b, 0, none⟩))) => ?_
  have F35 := F34.pt u35
  have h0_35 := u35.v 0 h0_34 (by decide)
  have h1_35 := u35.v 1 h1_34 (by decide)
  have h4_35 := u35.v 4 h4_34 (by decide)
  have h34_35 := u35.v 34 h34_34 (by decide)
  have h38_35 := u35.v 38 h38_34 (by decide)
  clear h0_34 h1_34 h4_34 h34_34 h38_34 u35 F34
  refine st_p (ex_nil (ad := ⟨b, 0, none⟩) h39_35) (by rw [F35.size]; decide) fun a36 u36 (h40_36 : a36.tmps.getD 40 undef = (.pointer (some ⟨b, 0, none⟩))) => ?_
  have F36 := F35.pt u36
  have h0_36 := u36.v 0 h0_35 (by decide)
  have h1_36 := u36.v 1 h1_35 (by decide)
  have h4_36 := u36.v 4 h4_35 (by decide)
  have h34_36 := u36.v 34 h34_35 (by decide)
  have h38_36 := u36.v 38 h38_35 (by decide)
  clear h0_35 h1_35 h4_35 h34_35 h38_35 h39_35 u36 F35
  refine st_p (ex_fa (T := 70) (f := 13) (k := 13) (b := b) (fun _ _ => by kernel_rfl) h40_36) (by rw [F36.size]; decide) fun a37 u37 (h41_37 : a37.tmps.getD 41 undef = (.pointer (some ⟨b, 13, none⟩))) => ?_
  have F37 := F36.pt u37
  have h0_37 := u37.v 0 h0_36 (by decide)
  have h1_37 := u37.v 1 h1_36 (by decide)
  have h4_37 := u37.v 4 h4_36 (by decide)
  have h34_37 := u37.v 34 h34_36 (by decide)
  have h38_37 := u37.v 38 h38_36 (by decide)
  clear h0_36 h1_36 h4_36 h34_36 h38_36 h40_36 u37 F36
  refine st_p (ex_ld (v := (.int .u64 cap)) (ad := ⟨b, 13, none⟩) (fun _ => by kernel_rfl) h41_37 (Bb_3.cell 13)) (by rw [F37.size]; decide) fun a38 u38 (h42_38 : a38.tmps.getD 42 undef = (.int .u64 cap)) => ?_
  have F38 := F37.pt u38
  have h0_38 := u38.v 0 h0_37 (by decide)
  have h1_38 := u38.v 1 h1_37 (by decide)
  have h4_38 := u38.v 4 h4_37 (by decide)
  have h34_38 := u38.v 34 h34_37 (by decide)
  have h38_38 := u38.v 38 h38_37 (by decide)
  clear h0_37 h1_37 h4_37 h34_37 h38_37 h41_37 u38 F37
  refine st_p (ex_mv (v := (.pointer (some ⟨b, 0, none⟩))) h0_38) (by rw [F38.size]; decide) fun a39 u39 (h43_39 : a39.tmps.getD 43 undef = (.pointer (some ⟨b, 0, none⟩))) => ?_
  have F39 := F38.pt u39
  have h0_39 := u39.v 0 h0_38 (by decide)
  have h1_39 := u39.v 1 h1_38 (by decide)
  have h4_39 := u39.v 4 h4_38 (by decide)
  have h34_39 := u39.v 34 h34_38 (by decide)
  have h38_39 := u39.v 38 h38_38 (by decide)
  have h42_39 := u39.v 42 h42_38 (by decide)
  clear h0_38 h1_38 h4_38 h34_38 h38_38 h42_38 u39 F38
  refine st_p (ex_nil (ad := ⟨b, 0, none⟩) h43_39) (by rw [F39.size]; decide) fun a40 u40 (h44_40 : a40.tmps.getD 44 undef = (.pointer (some ⟨b, 0, none⟩))) => ?_
  have F40 := F39.pt u40
  have h0_40 := u40.v 0 h0_39 (by decide)
  have h1_40 := u40.v 1 h1_39 (by decide)
  have h4_40 := u40.v 4 h4_39 (by decide)
  have h34_40 := u40.v 34 h34_39 (by decide)
  have h38_40 := u40.v 38 h38_39 (by decide)
  have h42_40 := u40.v 42 h42_39 (by decide)
  clear h0_39 h1_39 h4_39 h34_39 h38_39 h42_39 h43_39 u40 F39
  refine st_p (ex_fa (T := 70) (f := 15) (k := 15) (b := b) (fun _ _ => by kernel_rfl) h44_40) (by rw [F40.size]; decide) fun a41 u41 (h45_41 : a41.tmps.getD 45 undef = (.pointer (some ⟨b, 15, none⟩))) => ?_
  have F41 := F40.pt u41
  have h0_41 := u41.v 0 h0_40 (by decide)
  have h1_41 := u41.v 1 h1_40 (by decide)
  have h4_41 := u41.v 4 h4_40 (by decide)
  have h34_41 := u41.v 34 h34_40 (by decide)
  have h38_41 := u41.v 38 h38_40 (by decide)
  have h42_41 := u41.v 42 h42_40 (by decide)
  clear h0_40 h1_40 h4_40 h34_40 h38_40 h42_40 h44_40 u41 F40
  refine st_p (ex_ld (v := (.int .u64 t)) (ad := ⟨b, 15, none⟩) (fun _ => by kernel_rfl) h45_41 (Bb_3.cell 15)) (by rw [F41.size]; decide) fun a42 u42 (h46_42 : a42.tmps.getD 46 undef = (.int .u64 t)) => ?_
  have F42 := F41.pt u42
  have h0_42 := u42.v 0 h0_41 (by decide)
  have h1_42 := u42.v 1 h1_41 (by decide)
  have h4_42 := u42.v 4 h4_41 (by decide)
  have h34_42 := u42.v 34 h34_41 (by decide)
  have h38_42 := u42.v 38 h38_41 (by decide)
  have h42_42 := u42.v 42 h42_41 (by decide)
  clear h0_41 h1_41 h4_41 h34_41 h38_41 h42_41 h45_41 u42 F41
  refine st_p (ex_bin (vx := (.int .u64 cap)) (vy := (.int .u64 t)) (v := (.int .u64 (cap + t))) h42_42 h46_42 (bo_addu _ _ _ (by omega) (by omega))) (by rw [F42.size]; decide) fun a43 u43 (h47_43 : a43.tmps.getD 47 undef = (.int .u64 (cap + t))) => ?_
  have F43 := F42.pt u43
  have h0_43 := u43.v 0 h0_42 (by decide)
  have h1_43 := u43.v 1 h1_42 (by decide)
  have h4_43 := u43.v 4 h4_42 (by decide)
  have h34_43 := u43.v 34 h34_42 (by decide)
  have h38_43 := u43.v 38 h38_42 (by decide)
  clear h0_42 h1_42 h4_42 h34_42 h38_42 h42_42 h46_42 u43 F42
  refine st_p (ex_bin (vx := (.int .u64 (cap + t))) (vy := (.int .u64 1)) (v := (.int .u64 (cap + t - 1))) h47_43 rfl (bo_subu _ _ _ (by omega) (by omega))) (by rw [F43.size]; decide) fun a44 u44 (h48_44 : a44.tmps.getD 48 undef = (.int .u64 (cap + t - 1))) => ?_
  have F44 := F43.pt u44
  have h0_44 := u44.v 0 h0_43 (by decide)
  have h1_44 := u44.v 1 h1_43 (by decide)
  have h4_44 := u44.v 4 h4_43 (by decide)
  have h34_44 := u44.v 34 h34_43 (by decide)
  have h38_44 := u44.v 38 h38_43 (by decide)
  clear h0_43 h1_43 h4_43 h34_43 h38_43 h47_43 u44 F43
  refine st_p (ex_mv (v := (.pointer (some ⟨b, 0, none⟩))) h0_44) (by rw [F44.size]; decide) fun a45 u45 (h49_45 : a45.tmps.getD 49 undef = (.pointer (some ⟨b, 0, none⟩))) => ?_
  have F45 := F44.pt u45
  have h0_45 := u45.v 0 h0_44 (by decide)
  have h1_45 := u45.v 1 h1_44 (by decide)
  have h4_45 := u45.v 4 h4_44 (by decide)
  have h34_45 := u45.v 34 h34_44 (by decide)
  have h38_45 := u45.v 38 h38_44 (by decide)
  have h48_45 := u45.v 48 h48_44 (by decide)
  clear h0_44 h1_44 h4_44 h34_44 h38_44 h48_44 u45 F44
  refine st_p (ex_nil (ad := ⟨b, 0, none⟩) h49_45) (by rw [F45.size]; decide) fun a46 u46 (h50_46 : a46.tmps.getD 50 undef = (.pointer (some ⟨b, 0, none⟩))) => ?_
  have F46 := F45.pt u46
  have h0_46 := u46.v 0 h0_45 (by decide)
  have h1_46 := u46.v 1 h1_45 (by decide)
  have h4_46 := u46.v 4 h4_45 (by decide)
  have h34_46 := u46.v 34 h34_45 (by decide)
  have h38_46 := u46.v 38 h38_45 (by decide)
  have h48_46 := u46.v 48 h48_45 (by decide)
  clear h0_45 h1_45 h4_45 h34_45 h38_45 h48_45 h49_45 u46 F45
  refine st_p (ex_fa (T := 70) (f := 13) (k := 13) (b := b) (fun _ _ => by kernel_rfl) h50_46) (by rw [F46.size]; decide) fun a47 u47 (h51_47 : a47.tmps.getD 51 undef = (.pointer (some ⟨b, 13, none⟩))) => ?_
  have F47 := F46.pt u47
  have h0_47 := u47.v 0 h0_46 (by decide)
  have h1_47 := u47.v 1 h1_46 (by decide)
  have h4_47 := u47.v 4 h4_46 (by decide)
  have h34_47 := u47.v 34 h34_46 (by decide)
  have h38_47 := u47.v 38 h38_46 (by decide)
  have h48_47 := u47.v 48 h48_46 (by decide)
  clear h0_46 h1_46 h4_46 h34_46 h38_46 h48_46 h50_46 u47 F46
  refine st_p (ex_ld (v := (.int .u64 cap)) (ad := ⟨b, 13, none⟩) (fun _ => by kernel_rfl) h51_47 (Bb_3.cell 13)) (by rw [F47.size]; decide) fun a48 u48 (h52_48 : a48.tmps.getD 52 undef = (.int .u64 cap)) => ?_
  have F48 := F47.pt u48
  have h0_48 := u48.v 0 h0_47 (by decide)
  have h1_48 := u48.v 1 h1_47 (by decide)
  have h4_48 := u48.v 4 h4_47 (by decide)
  have h34_48 := u48.v 34 h34_47 (by decide)
  have h38_48 := u48.v 38 h38_47 (by decide)
  have h48_48 := u48.v 48 h48_47 (by decide)
  clear h0_47 h1_47 h4_47 h34_47 h38_47 h48_47 h51_47 u48 F47
  refine st_p (ex_bin (vx := (.int .u64 (cap + t - 1))) (vy := (.int .u64 cap)) (v := (.int .u64 j)) h48_48 h52_48 ((bo_remu _ _ _ (by omega) (by omega) (by omega)).trans (by rw [show ((cap : Int) + t - 1) % cap = j from by rw [show (cap : Int) + t - 1 = j + cap from by omega, Int.add_emod_right]; exact Int.emod_eq_of_lt (by omega) (by omega)]))) (by rw [F48.size]; decide) fun a49 u49 (h53_49 : a49.tmps.getD 53 undef = (.int .u64 j)) => ?_
  have F49 := F48.pt u49
  have h0_49 := u49.v 0 h0_48 (by decide)
  have h1_49 := u49.v 1 h1_48 (by decide)
  have h4_49 := u49.v 4 h4_48 (by decide)
  have h34_49 := u49.v 34 h34_48 (by decide)
  have h38_49 := u49.v 38 h38_48 (by decide)
  clear h0_48 h1_48 h4_48 h34_48 h38_48 h48_48 h52_48 u49 F48
  refine st_p (ex_ixg (vx := (.slice (some ⟨g, 0, none⟩) cap cap)) (vy := (.int .u64 j)) (v := (.pointer (some ⟨g, j, none⟩))) h38_49 h53_49 (ix_run g cap j (by omega) _)) (by rw [F49.size]; decide) fun a50 u50 (h54_50 : a50.tmps.getD 54 undef = (.pointer (some ⟨g, j, none⟩))) => ?_
  have F50 := F49.pt u50
  have h0_50 := u50.v 0 h0_49 (by decide)
  have h1_50 := u50.v 1 h1_49 (by decide)
  have h4_50 := u50.v 4 h4_49 (by decide)
  have h34_50 := u50.v 34 h34_49 (by decide)
  clear h0_49 h1_49 h4_49 h34_49 h38_49 h53_49 u50 F49
  refine st_p (ex_ld (v := pt v) (ad := ⟨g, j, none⟩) (fun _ => by kernel_rfl) h54_50 ((Bg_3.cell j).trans harr)) (by rw [F50.size]; decide) fun a51 u51 (h55_51 : a51.tmps.getD 55 undef = (.pointer (some ⟨v, 0, none⟩))) => ?_
  have F51 := F50.pt u51
  have h0_51 := u51.v 0 h0_50 (by decide)
  have h1_51 := u51.v 1 h1_50 (by decide)
  have h4_51 := u51.v 4 h4_50 (by decide)
  have h34_51 := u51.v 34 h34_50 (by decide)
  clear h0_50 h1_50 h4_50 h34_50 h54_50 u51 F50
  refine st_p (ex_nil (ad := ⟨v, 0, none⟩) h55_51) (by rw [F51.size]; decide) fun a52 u52 (h56_52 : a52.tmps.getD 56 undef = (.pointer (some ⟨v, 0, none⟩))) => ?_
  have F52 := F51.pt u52
  have h0_52 := u52.v 0 h0_51 (by decide)
  have h1_52 := u52.v 1 h1_51 (by decide)
  have h4_52 := u52.v 4 h4_51 (by decide)
  have h34_52 := u52.v 34 h34_51 (by decide)
  clear h0_51 h1_51 h4_51 h34_51 h55_51 u52 F51
  refine st_p (ex_fa (T := 96) (f := 0) (k := 0) (b := v) (fun _ _ => by kernel_rfl) h56_52) (by rw [F52.size]; decide) fun a53 u53 (h57_53 : a53.tmps.getD 57 undef = (.pointer (some ⟨v, 0, none⟩))) => ?_
  have F53 := F52.pt u53
  have h0_53 := u53.v 0 h0_52 (by decide)
  have h1_53 := u53.v 1 h1_52 (by decide)
  have h4_53 := u53.v 4 h4_52 (by decide)
  have h34_53 := u53.v 34 h34_52 (by decide)
  clear h0_52 h1_52 h4_52 h34_52 h56_52 u53 F52
  refine st_p (ex_ld (v := (.int .u64 num)) (ad := ⟨v, 0, none⟩) (fun _ => by kernel_rfl) h57_53 (Bv_3.cell 0)) (by rw [F53.size]; decide) fun a54 u54 (h58_54 : a54.tmps.getD 58 undef = (.int .u64 num)) => ?_
  have F54 := F53.pt u54
  have h0_54 := u54.v 0 h0_53 (by decide)
  have h1_54 := u54.v 1 h1_53 (by decide)
  have h4_54 := u54.v 4 h4_53 (by decide)
  have h34_54 := u54.v 34 h34_53 (by decide)
  clear h0_53 h1_53 h4_53 h34_53 h57_53 u54 F53
  refine st_p (ex_bin (vx := (.int .u64 num)) (vy := (.int .u64 1)) (v := (.int .u64 (num + 1))) h58_54 rfl (bo_add64 _ _ _ (by omega) (by omega))) (by rw [F54.size]; decide) fun a55 u55 (h59_55 : a55.tmps.getD 59 undef = (.int .u64 (num + 1))) => ?_
  have F55 := F54.pt u55
  have h0_55 := u55.v 0 h0_54 (by decide)
  have h1_55 := u55.v 1 h1_54 (by decide)
  have h4_55 := u55.v 4 h4_54 (by decide)
  have h34_55 := u55.v 34 h34_54 (by decide)
  clear h0_54 h1_54 h4_54 h34_54 h58_54 u55 F54
  refine st_p (ex_nil (ad := ⟨q, 0, none⟩) h34_55) (by rw [F55.size]; decide) fun a56 u56 (h60_56 : a56.tmps.getD 60 undef = (.pointer (some ⟨q, 0, none⟩))) => ?_
  have F56 := F55.pt u56
  have h0_56 := u56.v 0 h0_55 (by decide)
  have h1_56 := u56.v 1 h1_55 (by decide)
  have h4_56 := u56.v 4 h4_55 (by decide)
  have h59_56 := u56.v 59 h59_55 (by decide)
  clear h0_55 h1_55 h4_55 h34_55 h59_55 u56 F55
  refine st_p (ex_fa (T := 96) (f := 0) (k := 0) (b := q) (fun _ _ => by kernel_rfl) h60_56) (by rw [F56.size]; decide) fun a57 u57 (h61_57 : a57.tmps.getD 61 undef = (.pointer (some ⟨q, 0, none⟩))) => ?_
  have F57 := F56.pt u57
  have h0_57 := u57.v 0 h0_56 (by decide)
  have h1_57 := u57.v 1 h1_56 (by decide)
  have h4_57 := u57.v 4 h4_56 (by decide)
  have h59_57 := u57.v 59 h59_56 (by decide)
  clear h0_56 h1_56 h4_56 h59_56 h60_56 u57 F56
  obtain ⟨w4, hr4, Bq_4, G4⟩ := st_run (T := 25) (o := 0) (v := (.int .u64 (num + 1))) (cs' := #[(.int .u64 (num + 1)), s1, s2, (.float .f64 y), s4, s5, s6, s7, s8, s9, s10]) (fun _ => by kernel_rfl) Bq_3 rfl (by simp) rfl
  have Bb_4 := Bb_3.gk G4 (Ne.symm hqb)
  have Bg_4 := Bg_3.gk G4 hgq
  have Bv_4 := Bv_3.gk G4 hvq
  have Kp4 := Kp3.set G4 (Or.inl (by simp))
  refine wl_n (ex_st h61_57 h59_57 hr4) ?_
  clear Bb_3 Bg_3 Bv_3 Kp3 Bq_3 hr4 G4
  change Code.wp _ _ _ _ _
  refine wp_seq ?_
  obtain ⟨w5, hw5⟩ : ∃ w, w = w4.drew := ⟨_, rfl⟩
  have G5 : w4.grownBy w5 none := hw5 ▸ grown_drew _
  have Bb_5 := Bb_4.gn G5
  have Bg_5 := Bg_4.gn G5
  have Bq_5 := Bq_4.gn G5
  have Bv_5 := Bv_4.gn G5
  have Kp5 := Kp4.new G5
  refine rg_stillt 10 hw5 hmix (by kernel_rfl) ?_
  clear Bb_4 Bg_4 Bq_4 Bv_4 Kp4 hw5 G5
  refine st_p (ex_mv (v := (.pointer (some ⟨b, 0, none⟩))) h0_57) (by rw [F57.size]; decide) fun a58 u58 (h62_58 : a58.tmps.getD 62 undef = (.pointer (some ⟨b, 0, none⟩))) => ?_
  have F58 := F57.pt u58
  have h0_58 := u58.v 0 h0_57 (by decide)
  have h1_58 := u58.v 1 h1_57 (by decide)
  have h4_58 := u58.v 4 h4_57 (by decide)
  clear h0_57 h1_57 h4_57 h59_57 h61_57 u58 F57
  refine st_p (ex_nil (ad := ⟨b, 0, none⟩) h62_58) (by rw [F58.size]; decide) fun a59 u59 (h63_59 : a59.tmps.getD 63 undef = (.pointer (some ⟨b, 0, none⟩))) => ?_
  have F59 := F58.pt u59
  have h0_59 := u59.v 0 h0_58 (by decide)
  have h1_59 := u59.v 1 h1_58 (by decide)
  have h4_59 := u59.v 4 h4_58 (by decide)
  clear h0_58 h1_58 h4_58 h62_58 u59 F58
  refine st_p (ex_fa (T := 70) (f := 2) (k := 2) (b := b) (fun _ _ => by kernel_rfl) h63_59) (by rw [F59.size]; decide) fun a60 u60 (h64_60 : a60.tmps.getD 64 undef = (.pointer (some ⟨b, 2, none⟩))) => ?_
  have F60 := F59.pt u60
  have h0_60 := u60.v 0 h0_59 (by decide)
  have h1_60 := u60.v 1 h1_59 (by decide)
  have h4_60 := u60.v 4 h4_59 (by decide)
  clear h0_59 h1_59 h4_59 h63_59 u60 F59
  refine st_p (ex_ld (v := (.slice (some ⟨g, 0, none⟩) cap cap)) (ad := ⟨b, 2, none⟩) (fun _ => by kernel_rfl) h64_60 (Bb_5.cell 2)) (by rw [F60.size]; decide) fun a61 u61 (h65_61 : a61.tmps.getD 65 undef = (.slice (some ⟨g, 0, none⟩) cap cap)) => ?_
  have F61 := F60.pt u61
  have h0_61 := u61.v 0 h0_60 (by decide)
  have h1_61 := u61.v 1 h1_60 (by decide)
  have h4_61 := u61.v 4 h4_60 (by decide)
  clear h0_60 h1_60 h4_60 h64_60 u61 F60
  refine st_p (ex_mv (v := (.pointer (some ⟨b, 0, none⟩))) h0_61) (by rw [F61.size]; decide) fun a62 u62 (h66_62 : a62.tmps.getD 66 undef = (.pointer (some ⟨b, 0, none⟩))) => ?_
  have F62 := F61.pt u62
  have h0_62 := u62.v 0 h0_61 (by decide)
  have h1_62 := u62.v 1 h1_61 (by decide)
  have h4_62 := u62.v 4 h4_61 (by decide)
  have h65_62 := u62.v 65 h65_61 (by decide)
  clear h0_61 h1_61 h4_61 h65_61 u62 F61
  refine st_p (ex_nil (ad := ⟨b, 0, none⟩) h66_62) (by rw [F62.size]; decide) fun a63 u63 (h67_63 : a63.tmps.getD 67 undef = (.pointer (some ⟨b, 0, none⟩))) => ?_
  have F63 := F62.pt u63
  have h0_63 := u63.v 0 h0_62 (by decide)
  have h1_63 := u63.v 1 h1_62 (by decide)
  have h4_63 := u63.v 4 h4_62 (by decide)
  have h65_63 := u63.v 65 h65_62 (by decide)
  clear h0_62 h1_62 h4_62 h65_62 h66_62 u63 F62
  refine st_p (ex_fa (T := 70) (f := 15) (k := 15) (b := b) (fun _ _ => by kernel_rfl) h67_63) (by rw [F63.size]; decide) fun a64 u64 (h68_64 : a64.tmps.getD 68 undef = (.pointer (some ⟨b, 15, none⟩))) => ?_
  have F64 := F63.pt u64
  have h0_64 := u64.v 0 h0_63 (by decide)
  have h1_64 := u64.v 1 h1_63 (by decide)
  have h4_64 := u64.v 4 h4_63 (by decide)
  have h65_64 := u64.v 65 h65_63 (by decide)
  clear h0_63 h1_63 h4_63 h65_63 h67_63 u64 F63
  refine st_p (ex_ld (v := (.int .u64 t)) (ad := ⟨b, 15, none⟩) (fun _ => by kernel_rfl) h68_64 (Bb_5.cell 15)) (by rw [F64.size]; decide) fun a65 u65 (h69_65 : a65.tmps.getD 69 undef = (.int .u64 t)) => ?_
  have F65 := F64.pt u65
  have h0_65 := u65.v 0 h0_64 (by decide)
  have h1_65 := u65.v 1 h1_64 (by decide)
  have h4_65 := u65.v 4 h4_64 (by decide)
  have h65_65 := u65.v 65 h65_64 (by decide)
  clear h0_64 h1_64 h4_64 h65_64 h68_64 u65 F64
  refine st_p (ex_mv (v := (.pointer (some ⟨q, 0, none⟩))) h1_65) (by rw [F65.size]; decide) fun a66 u66 (h70_66 : a66.tmps.getD 70 undef = (.pointer (some ⟨q, 0, none⟩))) => ?_
  have F66 := F65.pt u66
  have h0_66 := u66.v 0 h0_65 (by decide)
  have h1_66 := u66.v 1 h1_65 (by decide)
  have h4_66 := u66.v 4 h4_65 (by decide)
  have h65_66 := u66.v 65 h65_65 (by decide)
  have h69_66 := u66.v 69 h69_65 (by decide)
  clear h0_65 h1_65 h4_65 h65_65 h69_65 u66 F65
  refine st_p (ex_ixg (vx := (.slice (some ⟨g, 0, none⟩) cap cap)) (vy := (.int .u64 t)) (v := (.pointer (some ⟨g, t, none⟩))) h65_66 h69_66 (ix_run g cap t (by omega) _)) (by rw [F66.size]; decide) fun a67 u67 (h71_67 : a67.tmps.getD 71 undef = (.pointer (some ⟨g, t, none⟩))) => ?_
  have F67 := F66.pt u67
  have h0_67 := u67.v 0 h0_66 (by decide)
  have h1_67 := u67.v 1 h1_66 (by decide)
  have h4_67 := u67.v 4 h4_66 (by decide)
  have h70_67 := u67.v 70 h70_66 (by decide)
  clear h0_66 h1_66 h4_66 h65_66 h69_66 h70_66 u67 F66
  obtain ⟨w6, hr6, Bg_6, G6⟩ := st_run (T := 74) (o := t) (v := (.pointer (some ⟨q, 0, none⟩))) (cs' := (arr.setIfInBounds t (.pointer (some ⟨q, 0, none⟩)))) (fun _ => by kernel_rfl) Bg_5 rfl (hin) rfl
  have Bb_6 := Bb_5.gk G6 (Ne.symm hgb)
  have Bq_6 := Bq_5.gk G6 (Ne.symm hgq)
  have Bv_6 := Bv_5.gk G6 (Ne.symm hgv)
  have Kp6 := Kp5.set G6 (Or.inl (by simp))
  refine wl_n (ex_st h71_67 h70_67 hr6) ?_
  clear Bb_5 Bq_5 Bv_5 Kp5 Bg_5 hr6 G6
  change Code.wp _ _ _ _ _
  refine wp_seq ?_
  obtain ⟨w7, hw7⟩ : ∃ w, w = w6.drew := ⟨_, rfl⟩
  have G7 : w6.grownBy w7 none := hw7 ▸ grown_drew _
  have Bb_7 := Bb_6.gn G7
  have Bg_7 := Bg_6.gn G7
  have Bq_7 := Bq_6.gn G7
  have Bv_7 := Bv_6.gn G7
  have Kp7 := Kp6.new G7
  refine rg_stillt 13 hw7 hmix (by kernel_rfl) ?_
  clear Bb_6 Bg_6 Bq_6 Bv_6 Kp6 hw7 G7
  refine st_p (ex_mv (v := (.pointer (some ⟨b, 0, none⟩))) h0_67) (by rw [F67.size]; decide) fun a68 u68 (h72_68 : a68.tmps.getD 72 undef = (.pointer (some ⟨b, 0, none⟩))) => ?_
  have F68 := F67.pt u68
  have h0_68 := u68.v 0 h0_67 (by decide)
  have h1_68 := u68.v 1 h1_67 (by decide)
  have h4_68 := u68.v 4 h4_67 (by decide)
  clear h0_67 h1_67 h4_67 h70_67 h71_67 u68 F67
  refine st_p (ex_mv (v := (.pointer (some ⟨b, 0, none⟩))) h0_68) (by rw [F68.size]; decide) fun a69 u69 (h73_69 : a69.tmps.getD 73 undef = (.pointer (some ⟨b, 0, none⟩))) => ?_
  have F69 := F68.pt u69
  have h0_69 := u69.v 0 h0_68 (by decide)
  have h1_69 := u69.v 1 h1_68 (by decide)
  have h4_69 := u69.v 4 h4_68 (by decide)
  have h72_69 := u69.v 72 h72_68 (by decide)
  clear h0_68 h1_68 h4_68 h72_68 u69 F68
  refine st_p (ex_nil (ad := ⟨b, 0, none⟩) h73_69) (by rw [F69.size]; decide) fun a70 u70 (h74_70 : a70.tmps.getD 74 undef = (.pointer (some ⟨b, 0, none⟩))) => ?_
  have F70 := F69.pt u70
  have h0_70 := u70.v 0 h0_69 (by decide)
  have h1_70 := u70.v 1 h1_69 (by decide)
  have h4_70 := u70.v 4 h4_69 (by decide)
  have h72_70 := u70.v 72 h72_69 (by decide)
  clear h0_69 h1_69 h4_69 h72_69 h73_69 u70 F69
  refine st_p (ex_fa (T := 70) (f := 15) (k := 15) (b := b) (fun _ _ => by kernel_rfl) h74_70) (by rw [F70.size]; decide) fun a71 u71 (h75_71 : a71.tmps.getD 75 undef = (.pointer (some ⟨b, 15, none⟩))) => ?_
  have F71 := F70.pt u71
  have h0_71 := u71.v 0 h0_70 (by decide)
  have h1_71 := u71.v 1 h1_70 (by decide)
  have h4_71 := u71.v 4 h4_70 (by decide)
  have h72_71 := u71.v 72 h72_70 (by decide)
  clear h0_70 h1_70 h4_70 h72_70 h74_70 u71 F70
  refine st_p (ex_ld (v := (.int .u64 t)) (ad := ⟨b, 15, none⟩) (fun _ => by kernel_rfl) h75_71 (Bb_7.cell 15)) (by rw [F71.size]; decide) fun a72 u72 (h76_72 : a72.tmps.getD 76 undef = (.int .u64 t)) => ?_
  have F72 := F71.pt u72
  have h0_72 := u72.v 0 h0_71 (by decide)
  have h1_72 := u72.v 1 h1_71 (by decide)
  have h4_72 := u72.v 4 h4_71 (by decide)
  have h72_72 := u72.v 72 h72_71 (by decide)
  clear h0_71 h1_71 h4_71 h72_71 h75_71 u72 F71
  refine st_p (ex_bin (vx := (.int .u64 t)) (vy := (.int .u64 1)) (v := (.int .u64 (t + 1))) h76_72 rfl (bo_addu _ _ _ (by omega) (by omega))) (by rw [F72.size]; decide) fun a73 u73 (h77_73 : a73.tmps.getD 77 undef = (.int .u64 (t + 1))) => ?_
  have F73 := F72.pt u73
  have h0_73 := u73.v 0 h0_72 (by decide)
  have h1_73 := u73.v 1 h1_72 (by decide)
  have h4_73 := u73.v 4 h4_72 (by decide)
  have h72_73 := u73.v 72 h72_72 (by decide)
  clear h0_72 h1_72 h4_72 h72_72 h76_72 u73 F72
  refine st_p (ex_mv (v := (.pointer (some ⟨b, 0, none⟩))) h0_73) (by rw [F73.size]; decide) fun a74 u74 (h78_74 : a74.tmps.getD 78 undef = (.pointer (some ⟨b, 0, none⟩))) => ?_
  have F74 := F73.pt u74
  have h0_74 := u74.v 0 h0_73 (by decide)
  have h1_74 := u74.v 1 h1_73 (by decide)
  have h4_74 := u74.v 4 h4_73 (by decide)
  have h72_74 := u74.v 72 h72_73 (by decide)
  have h77_74 := u74.v 77 h77_73 (by decide)
  clear h0_73 h1_73 h4_73 h72_73 h77_73 u74 F73
  refine st_p (ex_nil (ad := ⟨b, 0, none⟩) h78_74) (by rw [F74.size]; decide) fun a75 u75 (h79_75 : a75.tmps.getD 79 undef = (.pointer (some ⟨b, 0, none⟩))) => ?_
  have F75 := F74.pt u75
  have h0_75 := u75.v 0 h0_74 (by decide)
  have h1_75 := u75.v 1 h1_74 (by decide)
  have h4_75 := u75.v 4 h4_74 (by decide)
  have h72_75 := u75.v 72 h72_74 (by decide)
  have h77_75 := u75.v 77 h77_74 (by decide)
  clear h0_74 h1_74 h4_74 h72_74 h77_74 h78_74 u75 F74
  refine st_p (ex_fa (T := 70) (f := 13) (k := 13) (b := b) (fun _ _ => by kernel_rfl) h79_75) (by rw [F75.size]; decide) fun a76 u76 (h80_76 : a76.tmps.getD 80 undef = (.pointer (some ⟨b, 13, none⟩))) => ?_
  have F76 := F75.pt u76
  have h0_76 := u76.v 0 h0_75 (by decide)
  have h1_76 := u76.v 1 h1_75 (by decide)
  have h4_76 := u76.v 4 h4_75 (by decide)
  have h72_76 := u76.v 72 h72_75 (by decide)
  have h77_76 := u76.v 77 h77_75 (by decide)
  clear h0_75 h1_75 h4_75 h72_75 h77_75 h79_75 u76 F75
  refine st_p (ex_ld (v := (.int .u64 cap)) (ad := ⟨b, 13, none⟩) (fun _ => by kernel_rfl) h80_76 (Bb_7.cell 13)) (by rw [F76.size]; decide) fun a77 u77 (h81_77 : a77.tmps.getD 81 undef = (.int .u64 cap)) => ?_
  have F77 := F76.pt u77
  have h0_77 := u77.v 0 h0_76 (by decide)
  have h1_77 := u77.v 1 h1_76 (by decide)
  have h4_77 := u77.v 4 h4_76 (by decide)
  have h72_77 := u77.v 72 h72_76 (by decide)
  have h77_77 := u77.v 77 h77_76 (by decide)
  clear h0_76 h1_76 h4_76 h72_76 h77_76 h80_76 u77 F76
  refine st_p (ex_bin (vx := (.int .u64 (t + 1))) (vy := (.int .u64 cap)) (v := (.int .u64 ((t + 1) % cap))) h77_77 h81_77 (bo_remu _ _ _ (by omega) (by omega) (by omega))) (by rw [F77.size]; decide) fun a78 u78 (h82_78 : a78.tmps.getD 82 undef = (.int .u64 ((t + 1) % cap))) => ?_
  have F78 := F77.pt u78
  have h0_78 := u78.v 0 h0_77 (by decide)
  have h1_78 := u78.v 1 h1_77 (by decide)
  have h4_78 := u78.v 4 h4_77 (by decide)
  have h72_78 := u78.v 72 h72_77 (by decide)
  clear h0_77 h1_77 h4_77 h72_77 h77_77 h81_77 u78 F77
  refine st_p (ex_nil (ad := ⟨b, 0, none⟩) h72_78) (by rw [F78.size]; decide) fun a79 u79 (h83_79 : a79.tmps.getD 83 undef = (.pointer (some ⟨b, 0, none⟩))) => ?_
  have F79 := F78.pt u79
  have h0_79 := u79.v 0 h0_78 (by decide)
  have h1_79 := u79.v 1 h1_78 (by decide)
  have h4_79 := u79.v 4 h4_78 (by decide)
  have h82_79 := u79.v 82 h82_78 (by decide)
  clear h0_78 h1_78 h4_78 h72_78 h82_78 u79 F78
  refine st_p (ex_fa (T := 70) (f := 15) (k := 15) (b := b) (fun _ _ => by kernel_rfl) h83_79) (by rw [F79.size]; decide) fun a80 u80 (h84_80 : a80.tmps.getD 84 undef = (.pointer (some ⟨b, 15, none⟩))) => ?_
  have F80 := F79.pt u80
  have h0_80 := u80.v 0 h0_79 (by decide)
  have h1_80 := u80.v 1 h1_79 (by decide)
  have h4_80 := u80.v 4 h4_79 (by decide)
  have h82_80 := u80.v 82 h82_79 (by decide)
  clear h0_79 h1_79 h4_79 h82_79 h83_79 u80 F79
  obtain ⟨w8, hr8, Bb_8, G8⟩ := st_run (T := 50) (o := 15) (v := (.int .u64 ((t + 1) % cap))) (cs' := #[(.float .f64 x), (.int .u64 seq), (.slice (some ⟨g, 0, none⟩) cap cap), c3, c4, c5, c6, c7, c8, c9, c10, c11, c12, (.int .u64 cap), (.int .u64 0), (.int .u64 ((t + 1) % cap)), (.int .u64 t), (.slice none 0 0), (.int .i64 0), (.int .i8 0), c20, c21, c22]) (fun _ => by kernel_rfl) Bb_7 rfl (by simp) rfl
  have Bg_8 := Bg_7.gk G8 hgb
  have Bq_8 := Bq_7.gk G8 hqb
  have Bv_8 := Bv_7.gk G8 hvb
  have Kp8 := Kp7.set G8 (Or.inl (by simp))
  refine wl_n (ex_st h84_80 h82_80 hr8) ?_
  clear Bg_7 Bq_7 Bv_7 Kp7 Bb_7 hr8 G8
  change Code.wp _ _ _ _ _
  refine wp_seq ?_
  refine rg_list ?_
  refine wl_p (ex_mv (v := (.pointer (some ⟨b, 0, none⟩))) h0_80) (by rw [F80.size]; decide) fun a81 u81 (h85_81 : a81.tmps.getD 85 undef = (.pointer (some ⟨b, 0, none⟩))) => ?_
  have F81 := F80.pt u81
  have h0_81 := u81.v 0 h0_80 (by decide)
  have h1_81 := u81.v 1 h1_80 (by decide)
  have h4_81 := u81.v 4 h4_80 (by decide)
  clear h0_80 h1_80 h4_80 h82_80 h84_80 u81 F80
  refine wl_p (ex_nil (ad := ⟨b, 0, none⟩) h85_81) (by rw [F81.size]; decide) fun a82 u82 (h86_82 : a82.tmps.getD 86 undef = (.pointer (some ⟨b, 0, none⟩))) => ?_
  have F82 := F81.pt u82
  have h0_82 := u82.v 0 h0_81 (by decide)
  have h1_82 := u82.v 1 h1_81 (by decide)
  have h4_82 := u82.v 4 h4_81 (by decide)
  have h85_82 := u82.v 85 h85_81 (by decide)
  clear h0_81 h1_81 h4_81 h85_81 u82 F81
  refine wl_p (ex_fa (T := 70) (f := 16) (k := 16) (b := b) (fun _ _ => by kernel_rfl) h86_82) (by rw [F82.size]; decide) fun a83 u83 (h87_83 : a83.tmps.getD 87 undef = (.pointer (some ⟨b, 16, none⟩))) => ?_
  have F83 := F82.pt u83
  have h0_83 := u83.v 0 h0_82 (by decide)
  have h1_83 := u83.v 1 h1_82 (by decide)
  have h4_83 := u83.v 4 h4_82 (by decide)
  have h85_83 := u83.v 85 h85_82 (by decide)
  clear h0_82 h1_82 h4_82 h85_82 h86_82 u83 F82
  refine wl_p (ex_ld (v := (.int .u64 t)) (ad := ⟨b, 16, none⟩) (fun _ => by kernel_rfl) h87_83 (Bb_8.cell 16)) (by rw [F83.size]; decide) fun a84 u84 (h88_84 : a84.tmps.getD 88 undef = (.int .u64 t)) => ?_
  have F84 := F83.pt u84
  have h0_84 := u84.v 0 h0_83 (by decide)
  have h1_84 := u84.v 1 h1_83 (by decide)
  have h4_84 := u84.v 4 h4_83 (by decide)
  have h85_84 := u84.v 85 h85_83 (by decide)
  clear h0_83 h1_83 h4_83 h85_83 h87_83 u84 F83
  refine wl_p (ex_bin (vx := (.int .u64 t)) (vy := (.int .u64 1)) (v := (.int .u64 (t + 1))) h88_84 rfl (bo_addu _ _ _ (by omega) (by omega))) (by rw [F84.size]; decide) fun a85 u85 (h89_85 : a85.tmps.getD 89 undef = (.int .u64 (t + 1))) => ?_
  have F85 := F84.pt u85
  have h0_85 := u85.v 0 h0_84 (by decide)
  have h1_85 := u85.v 1 h1_84 (by decide)
  have h4_85 := u85.v 4 h4_84 (by decide)
  have h85_85 := u85.v 85 h85_84 (by decide)
  clear h0_84 h1_84 h4_84 h85_84 h88_84 u85 F84
  refine wl_p (ex_nil (ad := ⟨b, 0, none⟩) h85_85) (by rw [F85.size]; decide) fun a86 u86 (h90_86 : a86.tmps.getD 90 undef = (.pointer (some ⟨b, 0, none⟩))) => ?_
  have F86 := F85.pt u86
  have h0_86 := u86.v 0 h0_85 (by decide)
  have h1_86 := u86.v 1 h1_85 (by decide)
  have h4_86 := u86.v 4 h4_85 (by decide)
  have h89_86 := u86.v 89 h89_85 (by decide)
  clear h0_85 h1_85 h4_85 h85_85 h89_85 u86 F85
  refine wl_p (ex_fa (T := 70) (f := 16) (k := 16) (b := b) (fun _ _ => by kernel_rfl) h90_86) (by rw [F86.size]; decide) fun a87 u87 (h91_87 : a87.tmps.getD 91 undef = (.pointer (some ⟨b, 16, none⟩))) => ?_
  have F87 := F86.pt u87
  have h0_87 := u87.v 0 h0_86 (by decide)
  have h1_87 := u87.v 1 h1_86 (by decide)
  have h4_87 := u87.v 4 h4_86 (by decide)
  have h89_87 := u87.v 89 h89_86 (by decide)
  clear h0_86 h1_86 h4_86 h89_86 h90_86 u87 F86
  obtain ⟨w9, hr9, Bb_9, G9⟩ := st_run (T := 50) (o := 16) (v := (.int .u64 (t + 1))) (cs' := #[(.float .f64 x), (.int .u64 seq), (.slice (some ⟨g, 0, none⟩) cap cap), c3, c4, c5, c6, c7, c8, c9, c10, c11, c12, (.int .u64 cap), (.int .u64 0), (.int .u64 ((t + 1) % cap)), (.int .u64 (t + 1)), (.slice none 0 0), (.int .i64 0), (.int .i8 0), c20, c21, c22]) (fun _ => by kernel_rfl) Bb_8 rfl (by simp) rfl
  have Bg_9 := Bg_8.gk G9 hgb
  have Bq_9 := Bq_8.gk G9 hqb
  have Bv_9 := Bv_8.gk G9 hvb
  have Kp9 := Kp8.set G9 (Or.inl (by simp))
  refine wl_n (ex_st h91_87 h89_87 hr9) ?_
  clear Bg_8 Bq_8 Bv_8 Kp8 Bb_8 hr9 G9
  change Code.wp _ _ _ _ _
  refine wp_seq ?_
  refine wp_seq ?_
  obtain ⟨w10, hw10⟩ : ∃ w, w = w9.drew := ⟨_, rfl⟩
  have G10 : w9.grownBy w10 none := hw10 ▸ grown_drew _
  have Bb_10 := Bb_9.gn G10
  have Bg_10 := Bg_9.gn G10
  have Bq_10 := Bq_9.gn G10
  have Bv_10 := Bv_9.gn G10
  have Kp10 := Kp9.new G10
  refine rg_still hw10 hmix (by kernel_rfl) ?_
  clear Bb_9 Bg_9 Bq_9 Bv_9 Kp9 hw10 G10
  refine st_p (ex_mv (v := (.pointer (some ⟨b, 0, none⟩))) h0_87) (by rw [F87.size]; decide) fun a88 u88 (h92_88 : a88.tmps.getD 92 undef = (.pointer (some ⟨b, 0, none⟩))) => ?_
  have F88 := F87.pt u88
  have h0_88 := u88.v 0 h0_87 (by decide)
  have h1_88 := u88.v 1 h1_87 (by decide)
  have h4_88 := u88.v 4 h4_87 (by decide)
  clear h0_87 h1_87 h4_87 h89_87 h91_87 u88 F87
  refine st_p (ex_nil (ad := ⟨b, 0, none⟩) h92_88) (by rw [F88.size]; decide) fun a89 u89 (h93_89 : a89.tmps.getD 93 undef = (.pointer (some ⟨b, 0, none⟩))) => ?_
  have F89 := F88.pt u89
  have h0_89 := u89.v 0 h0_88 (by decide)
  have h1_89 := u89.v 1 h1_88 (by decide)
  have h4_89 := u89.v 4 h4_88 (by decide)
  clear h0_88 h1_88 h4_88 h92_88 u89 F88
  refine st_p (ex_fa (T := 70) (f := 0) (k := 0) (b := b) (fun _ _ => by kernel_rfl) h93_89) (by rw [F89.size]; decide) fun a90 u90 (h94_90 : a90.tmps.getD 94 undef = (.pointer (some ⟨b, 0, none⟩))) => ?_
  have F90 := F89.pt u90
  have h0_90 := u90.v 0 h0_89 (by decide)
  have h1_90 := u90.v 1 h1_89 (by decide)
  have h4_90 := u90.v 4 h4_89 (by decide)
  clear h0_89 h1_89 h4_89 h93_89 u90 F89
  refine st_p (ex_ld (v := (.float .f64 x)) (ad := ⟨b, 0, none⟩) (fun _ => by kernel_rfl) h94_90 (Bb_10.cell 0)) (by rw [F90.size]; decide) fun a91 u91 (h95_91 : a91.tmps.getD 95 undef = (.float .f64 x)) => ?_
  have F91 := F90.pt u91
  have h0_91 := u91.v 0 h0_90 (by decide)
  have h1_91 := u91.v 1 h1_90 (by decide)
  have h4_91 := u91.v 4 h4_90 (by decide)
  clear h0_90 h1_90 h4_90 h94_90 u91 F90
  refine st_p (ex_mv (v := (.pointer (some ⟨q, 0, none⟩))) h1_91) (by rw [F91.size]; decide) fun a92 u92 (h96_92 : a92.tmps.getD 96 undef = (.pointer (some ⟨q, 0, none⟩))) => ?_
  have F92 := F91.pt u92
  have h0_92 := u92.v 0 h0_91 (by decide)
  have h1_92 := u92.v 1 h1_91 (by decide)
  have h4_92 := u92.v 4 h4_91 (by decide)
  have h95_92 := u92.v 95 h95_91 (by decide)
  clear h0_91 h1_91 h4_91 h95_91 u92 F91
  refine st_p (ex_nil (ad := ⟨q, 0, none⟩) h96_92) (by rw [F92.size]; decide) fun a93 u93 (h97_93 : a93.tmps.getD 97 undef = (.pointer (some ⟨q, 0, none⟩))) => ?_
  have F93 := F92.pt u93
  have h0_93 := u93.v 0 h0_92 (by decide)
  have h1_93 := u93.v 1 h1_92 (by decide)
  have h4_93 := u93.v 4 h4_92 (by decide)
  have h95_93 := u93.v 95 h95_92 (by decide)
  clear h0_92 h1_92 h4_92 h95_92 h96_92 u93 F92
  refine st_p (ex_fa (T := 96) (f := 3) (k := 3) (b := q) (fun _ _ => by kernel_rfl) h97_93) (by rw [F93.size]; decide) fun a94 u94 (h98_94 : a94.tmps.getD 98 undef = (.pointer (some ⟨q, 3, none⟩))) => ?_
  have F94 := F93.pt u94
  have h0_94 := u94.v 0 h0_93 (by decide)
  have h1_94 := u94.v 1 h1_93 (by decide)
  have h4_94 := u94.v 4 h4_93 (by decide)
  have h95_94 := u94.v 95 h95_93 (by decide)
  clear h0_93 h1_93 h4_93 h95_93 h97_93 u94 F93
  refine st_p (ex_ld (v := (.float .f64 y)) (ad := ⟨q, 3, none⟩) (fun _ => by kernel_rfl) h98_94 (Bq_10.cell 3)) (by rw [F94.size]; decide) fun a95 u95 (h99_95 : a95.tmps.getD 99 undef = (.float .f64 y)) => ?_
  have F95 := F94.pt u95
  have h0_95 := u95.v 0 h0_94 (by decide)
  have h1_95 := u95.v 1 h1_94 (by decide)
  have h4_95 := u95.v 4 h4_94 (by decide)
  have h95_95 := u95.v 95 h95_94 (by decide)
  clear h0_94 h1_94 h4_94 h95_94 h98_94 u95 F94
  refine st_p (ex_bin (vx := (.float .f64 x)) (vy := (.float .f64 y)) (v := (.bool false)) h95_95 h99_95 ((bo_lssf _ _ _).trans (by rw [hord]))) (by rw [F95.size]; decide) fun a96 u96 (h100_96 : a96.tmps.getD 100 undef = (.bool false)) => ?_
  have F96 := F95.pt u96
  have h0_96 := u96.v 0 h0_95 (by decide)
  have h1_96 := u96.v 1 h1_95 (by decide)
  have h4_96 := u96.v 4 h4_95 (by decide)
  clear h0_95 h1_95 h4_95 h95_95 h99_95 u96 F95
  change Code.wp _ _ _ _ _
  refine wp_cond_false h100_96 ?_
  refine wp_skip ?_
  change Code.wp _ _ _ _ _
  refine wp_seq ?_
  refine rg_list ?_
  refine wl_p (ex_mv (v := (.pointer (some ⟨b, 0, none⟩))) h0_96) (by rw [F96.size]; decide) fun a97 u97 (h109_97 : a97.tmps.getD 109 undef = (.pointer (some ⟨b, 0, none⟩))) => ?_
  have F97 := F96.pt u97
  have h4_97 := u97.v 4 h4_96 (by decide)
  clear h0_96 h1_96 h4_96 h100_96 u97 F96
  refine wl_p (ex_nil (ad := ⟨b, 0, none⟩) h109_97) (by rw [F97.size]; decide) fun a98 u98 (h110_98 : a98.tmps.getD 110 undef = (.pointer (some ⟨b, 0, none⟩))) => ?_
  have F98 := F97.pt u98
  have h4_98 := u98.v 4 h4_97 (by decide)
  clear h4_97 h109_97 u98 F97
  refine wl_p (ex_fa (T := 70) (f := 17) (k := 17) (b := b) (fun _ _ => by kernel_rfl) h110_98) (by rw [F98.size]; decide) fun a99 u99 (h111_99 : a99.tmps.getD 111 undef = (.pointer (some ⟨b, 17, none⟩))) => ?_
  have F99 := F98.pt u99
  have h4_99 := u99.v 4 h4_98 (by decide)
  clear h4_98 h110_98 u99 F98
  refine wl_cl (args := #[(.pointer (some ⟨b, 17, none⟩))]) (R := fun v w' => v = (.tuple #[]) ∧ (Blk w' b 70 #[(.float .f64 x), (.int .u64 seq), (.slice (some ⟨g, 0, none⟩) cap cap), c3, c4, c5, c6, c7, c8, c9, c10, c11, c12, (.int .u64 cap), (.int .u64 0), (.int .u64 ((t + 1) % cap)), (.int .u64 (t + 1)), (.slice none 0 0), (.int .i64 0), (.int .i8 0), c20, c21, c22] ∧ w10.grownBy w' (some b))) (ex_cl (fun _ _ => by kernel_rfl) (arg1 h111_99)) ((reset17 Bb_10).mono fun _ _ h => ⟨_, h.1, rfl, h.2⟩) (by rw [F99.size]; decide) ?_
  rintro v w11 ⟨rfl, Bb_11, G11⟩
  have Bg_11 := Bg_10.gk G11 hgb
  have Bq_11 := Bq_10.gk G11 hqb
  have Bv_11 := Bv_10.gk G11 hvb
  have Kp11 := Kp10.set G11 (Or.inl (by simp))
  intro a100 u100 h112_100
  have F100 := F99.pt u100
  have h4_100 := u100.v 4 h4_99 (by decide)
  clear h4_99 h111_99 u100 F99
  clear Bg_10 Bq_10 Bv_10 Kp10 Bb_10
  change Code.wp _ _ _ _ _
  refine wp_seq ?_
  refine rg_list ?_
  refine wl_p (ex_as (v := .nilIface) rfl) (by rw [F100.size]; decide) fun a101 u101 (h4_101 : a101.tmps.getD 4 undef = .nilIface) => ?_
  have F101 := F100.pt u101
  clear h4_100 h112_100 u101 F100
  change Code.wp _ _ _ _ _
  refine wp_ret ?_
  try simp only [Exit.then, Exit.inBlock]
  exact bodyPost_ret (v := .nilIface) ((results_tmp rfl _ _ _).trans (by rw [h4_101])) F101.defers ⟨rfl, Bb_11, Bg_11, Bq_11, Kp11⟩
theorem app_more_up {b g q cap seq x y t j v num : Nat} {arr : Array Value} {c3 c4 c5 c6 c7 c8 c9 c10 c11 c12 c20 c21 c22 s0 s1 s2 s4 s5 s6 s7 s8 s9 s10 : Value} {w0 : World} (hb : Blk w0 b 70 #[(.float .f64 x), (.int .u64 seq), (.slice (some ⟨g, 0, none⟩) cap cap), c3, c4, c5, c6, c7, c8, c9, c10, c11, c12, (.int .u64 cap), (.int .u64 0), (.int .u64 t), (.int .u64 t), (.slice none 0 0), (.int .i64 0), (.int .i8 0), c20, c21, c22]) (hg : Blk w0 g 74 arr) (hq : Blk w0 q 96 #[s0, s1, s2, (.float .f64 y), s4, s5, s6, s7, s8, s9, s10]) (hgb : g ≠ b) (hqb : q ≠ b) (hgq : g ≠ q) (hc0 : 0 < cap) (hc1 : cap ≤ 1024) {v1 v2 v3 v4 v5 v6 v7 v8 v9 v10 : Value} (hv : Blk w0 v 96 #[(.int .u64 num), v1, v2, v3, v4, v5, v6, v7, v8, v9, v10]) (hvb : v ≠ b) (hvq : v ≠ q) (hgv : g ≠ v) (htj : t = j + 1) (htc : t < cap) (hin : t < arr.size) (harr : arr[j]? = some (pt v)) (hnum : num < 18446744073709551615) (hord : (FloatKind.f64.format.order x y == some .lt) = true) (hn : isNaN y = false) :
    Calls Tryz.prog 15 #[pt b, pt q] w0 fun e w' => e = .returned .nilIface ∧ Blk w' b 70 #[(.float .f64 (fceil y)), (.int .u64 seq), (.slice (some ⟨g, 0, none⟩) cap cap), c3, c4, c5, c6, c7, c8, c9, c10, c11, c12, (.int .u64 cap), (.int .u64 0), (.int .u64 ((t + 1) % cap)), (.int .u64 (t + 1)), (.slice none 0 0), (.int .i64 0), (.int .i8 0), c20, c21, c22] ∧ Blk w' g 74 (arr.setIfInBounds t (.pointer (some ⟨q, 0, none⟩))) ∧ Blk w' q 96 #[(.int .u64 (num + 1)), s1, s2, (.float .f64 y), s4, s5, s6, s7, s8, s9, s10] ∧ Kp [b, g, q] w0 w' := by
  refine calls_of_wp Tryz.func15 rfl ?_
  generalize hA : Act.mk _ _ = a0
  have F0 : Fz 113 a0 := by subst hA; exact ⟨by simp [Tryz.ntmps15], rfl⟩
  have h0_0 : a0.tmps.getD 0 undef = (.pointer (some ⟨b, 0, none⟩)) := by subst hA; exact fr_arg rfl
  have h1_0 : a0.tmps.getD 1 undef = (.pointer (some ⟨q, 0, none⟩)) := by subst hA; exact fr_arg rfl
  clear hA
  have Kp0 := Kp.refl [b, g, q] w0
  refine wp_seq ?_
  refine rg_list ?_
  refine wl_p (ex_as (v := .nilIface) rfl) (by rw [F0.size]; decide) fun a1 u1 (h4_1 : a1.tmps.getD 4 undef = .nilIface) => ?_
  have F1 := F0.pt u1
  have h0_1 := u1.v 0 h0_0 (by decide)
  have h1_1 := u1.v 1 h1_0 (by decide)
  clear h0_0 h1_0 u1 F0
  change Code.wp _ _ _ _ _
  refine wp_seq ?_
  refine wp_seq ?_
  obtain ⟨w1, hw1⟩ : ∃ w, w = w0.drew := ⟨_, rfl⟩
  have G1 : w0.grownBy w1 none := hw1 ▸ grown_drew _
  have Bb_1 := hb.gn G1
  have Bg_1 := hg.gn G1
  have Bq_1 := hq.gn G1
  have Bv_1 := hv.gn G1
  have Kp1 := Kp0.new G1
  refine rg_still hw1 hmix (by kernel_rfl) ?_
  clear hb hg hq hv Kp0 hw1 G1
  refine st_p (ex_mv (v := (.pointer (some ⟨b, 0, none⟩))) h0_1) (by rw [F1.size]; decide) fun a2 u2 (h5_2 : a2.tmps.getD 5 undef = (.pointer (some ⟨b, 0, none⟩))) => ?_
  have F2 := F1.pt u2
  have h0_2 := u2.v 0 h0_1 (by decide)
  have h1_2 := u2.v 1 h1_1 (by decide)
  have h4_2 := u2.v 4 h4_1 (by decide)
  clear h0_1 h1_1 h4_1 u2 F1
  refine st_p (ex_nil (ad := ⟨b, 0, none⟩) h5_2) (by rw [F2.size]; decide) fun a3 u3 (h6_3 : a3.tmps.getD 6 undef = (.pointer (some ⟨b, 0, none⟩))) => ?_
  have F3 := F2.pt u3
  have h0_3 := u3.v 0 h0_2 (by decide)
  have h1_3 := u3.v 1 h1_2 (by decide)
  have h4_3 := u3.v 4 h4_2 (by decide)
  clear h0_2 h1_2 h4_2 h5_2 u3 F2
  refine st_p (ex_fa (T := 70) (f := 14) (k := 14) (b := b) (fun _ _ => by kernel_rfl) h6_3) (by rw [F3.size]; decide) fun a4 u4 (h7_4 : a4.tmps.getD 7 undef = (.pointer (some ⟨b, 14, none⟩))) => ?_
  have F4 := F3.pt u4
  have h0_4 := u4.v 0 h0_3 (by decide)
  have h1_4 := u4.v 1 h1_3 (by decide)
  have h4_4 := u4.v 4 h4_3 (by decide)
  clear h0_3 h1_3 h4_3 h6_3 u4 F3
  refine st_p (ex_ld (v := (.int .u64 0)) (ad := ⟨b, 14, none⟩) (fun _ => by kernel_rfl) h7_4 (Bb_1.cell 14)) (by rw [F4.size]; decide) fun a5 u5 (h8_5 : a5.tmps.getD 8 undef = (.int .u64 0)) => ?_
  have F5 := F4.pt u5
  have h0_5 := u5.v 0 h0_4 (by decide)
  have h1_5 := u5.v 1 h1_4 (by decide)
  have h4_5 := u5.v 4 h4_4 (by decide)
  clear h0_4 h1_4 h4_4 h7_4 u5 F4
  refine st_p (ex_mv (v := (.pointer (some ⟨b, 0, none⟩))) h0_5) (by rw [F5.size]; decide) fun a6 u6 (h9_6 : a6.tmps.getD 9 undef = (.pointer (some ⟨b, 0, none⟩))) => ?_
  have F6 := F5.pt u6
  have h0_6 := u6.v 0 h0_5 (by decide)
  have h1_6 := u6.v 1 h1_5 (by decide)
  have h4_6 := u6.v 4 h4_5 (by decide)
  have h8_6 := u6.v 8 h8_5 (by decide)
  clear h0_5 h1_5 h4_5 h8_5 u6 F5
  refine st_p (ex_nil (ad := ⟨b, 0, none⟩) h9_6) (by rw [F6.size]; decide) fun a7 u7 (h10_7 : a7.tmps.getD 10 undef = (.pointer (some ⟨b, 0, none⟩))) => ?_
  have F7 := F6.pt u7
  have h0_7 := u7.v 0 h0_6 (by decide)
  have h1_7 := u7.v 1 h1_6 (by decide)
  have h4_7 := u7.v 4 h4_6 (by decide)
  have h8_7 := u7.v 8 h8_6 (by decide)
  clear h0_6 h1_6 h4_6 h8_6 h9_6 u7 F6
  refine st_p (ex_fa (T := 70) (f := 15) (k := 15) (b := b) (fun _ _ => by kernel_rfl) h10_7) (by rw [F7.size]; decide) fun a8 u8 (h11_8 : a8.tmps.getD 11 undef = (.pointer (some ⟨b, 15, none⟩))) => ?_
  have F8 := F7.pt u8
  have h0_8 := u8.v 0 h0_7 (by decide)
  have h1_8 := u8.v 1 h1_7 (by decide)
  have h4_8 := u8.v 4 h4_7 (by decide)
  have h8_8 := u8.v 8 h8_7 (by decide)
  clear h0_7 h1_7 h4_7 h8_7 h10_7 u8 F7
  refine st_p (ex_ld (v := (.int .u64 t)) (ad := ⟨b, 15, none⟩) (fun _ => by kernel_rfl) h11_8 (Bb_1.cell 15)) (by rw [F8.size]; decide) fun a9 u9 (h12_9 : a9.tmps.getD 12 undef = (.int .u64 t)) => ?_
  have F9 := F8.pt u9
  have h0_9 := u9.v 0 h0_8 (by decide)
  have h1_9 := u9.v 1 h1_8 (by decide)
  have h4_9 := u9.v 4 h4_8 (by decide)
  have h8_9 := u9.v 8 h8_8 (by decide)
  clear h0_8 h1_8 h4_8 h8_8 h11_8 u9 F8
  refine st_p (ex_bin (vx := (.int .u64 0)) (vy := (.int .u64 t)) (v := (.bool false)) h8_9 h12_9 ((bo_eqlu _ _ _).trans (by rw [show ((0 : Int) == (t : Int)) = false from by simp; omega]))) (by rw [F9.size]; decide) fun a10 u10 (h13_10 : a10.tmps.getD 13 undef = (.bool false)) => ?_
  have F10 := F9.pt u10
  have h0_10 := u10.v 0 h0_9 (by decide)
  have h1_10 := u10.v 1 h1_9 (by decide)
  have h4_10 := u10.v 4 h4_9 (by decide)
  clear h0_9 h1_9 h4_9 h8_9 h12_9 u10 F9
  refine st_p (ex_mv (v := (.bool false)) h13_10) (by rw [F10.size]; decide) fun a11 u11 (h14_11 : a11.tmps.getD 14 undef = (.bool false)) => ?_
  have F11 := F10.pt u11
  have h0_11 := u11.v 0 h0_10 (by decide)
  have h1_11 := u11.v 1 h1_10 (by decide)
  have h4_11 := u11.v 4 h4_10 (by decide)
  clear h0_10 h1_10 h4_10 h13_10 u11 F10
  refine st_k (yl (e := 14) rfl h14_11) (by decide) (by rw [F11.size]; decide) fun a12 u12 h15_12 => ?_
  have F12 := F11.pt u12
  have h0_12 := u12.v 0 h0_11 (by decide)
  have h1_12 := u12.v 1 h1_11 (by decide)
  have h4_12 := u12.v 4 h4_11 (by decide)
  have h14_12 := u12.v 14 h14_11 (by decide)
  clear h0_11 h1_11 h4_11 h14_11 u12 F11
  refine st_k (yl (e := 14) rfl h14_12) (by decide) (by rw [F12.size]; decide) fun a13 u13 h16_13 => ?_
  have F13 := F12.pt u13
  have h0_13 := u13.v 0 h0_12 (by decide)
  have h1_13 := u13.v 1 h1_12 (by decide)
  have h4_13 := u13.v 4 h4_12 (by decide)
  have h14_13 := u13.v 14 h14_12 (by decide)
  clear h0_12 h1_12 h4_12 h14_12 h15_12 u13 F12
  refine st_k (yl (e := 14) rfl h14_13) (by decide) (by rw [F13.size]; decide) fun a14 u14 h17_14 => ?_
  have F14 := F13.pt u14
  have h0_14 := u14.v 0 h0_13 (by decide)
  have h1_14 := u14.v 1 h1_13 (by decide)
  have h4_14 := u14.v 4 h4_13 (by decide)
  have h14_14 := u14.v 14 h14_13 (by decide)
  clear h0_13 h1_13 h4_13 h14_13 h16_13 u14 F13
  refine st_k (yl (e := 14) rfl h14_14) (by decide) (by rw [F14.size]; decide) fun a15 u15 h18_15 => ?_
  have F15 := F14.pt u15
  have h0_15 := u15.v 0 h0_14 (by decide)
  have h1_15 := u15.v 1 h1_14 (by decide)
  have h4_15 := u15.v 4 h4_14 (by decide)
  have h14_15 := u15.v 14 h14_14 (by decide)
  clear h0_14 h1_14 h4_14 h14_14 h17_14 u15 F14
  refine st_k (yl (e := 14) rfl h14_15) (by decide) (by rw [F15.size]; decide) fun a16 u16 h19_16 => ?_
  have F16 := F15.pt u16
  have h0_16 := u16.v 0 h0_15 (by decide)
  have h1_16 := u16.v 1 h1_15 (by decide)
  have h4_16 := u16.v 4 h4_15 (by decide)
  have h14_16 := u16.v 14 h14_15 (by decide)
  clear h0_15 h1_15 h4_15 h14_15 h18_15 u16 F15
  refine st_p (ex_pick (q := false) (v := (.bool false)) h14_16 rfl) (by rw [F16.size]; decide) fun a17 u17 (h20_17 : a17.tmps.getD 20 undef = (.bool false)) => ?_
  have F17 := F16.pt u17
  have h0_17 := u17.v 0 h0_16 (by decide)
  have h1_17 := u17.v 1 h1_16 (by decide)
  have h4_17 := u17.v 4 h4_16 (by decide)
  have h14_17 := u17.v 14 h14_16 (by decide)
  clear h0_16 h1_16 h4_16 h14_16 h19_16 u17 F16
  change Code.wp _ _ _ _ _
  refine wp_cond_false h20_17 ?_
  refine wp_skip ?_
  change Code.wp _ _ _ _ _
  refine wp_seq ?_
  refine rg_list ?_
  refine wl_p (ex_mv (v := (.pointer (some ⟨q, 0, none⟩))) h1_17) (by rw [F17.size]; decide) fun a18 u18 (h22_18 : a18.tmps.getD 22 undef = (.pointer (some ⟨q, 0, none⟩))) => ?_
  have F18 := F17.pt u18
  have h0_18 := u18.v 0 h0_17 (by decide)
  have h1_18 := u18.v 1 h1_17 (by decide)
  have h4_18 := u18.v 4 h4_17 (by decide)
  clear h0_17 h1_17 h4_17 h14_17 h20_17 u18 F17
  refine wl_p (ex_mv (v := (.pointer (some ⟨b, 0, none⟩))) h0_18) (by rw [F18.size]; decide) fun a19 u19 (h23_19 : a19.tmps.getD 23 undef = (.pointer (some ⟨b, 0, none⟩))) => ?_
  have F19 := F18.pt u19
  have h0_19 := u19.v 0 h0_18 (by decide)
  have h1_19 := u19.v 1 h1_18 (by decide)
  have h4_19 := u19.v 4 h4_18 (by decide)
  have h22_19 := u19.v 22 h22_18 (by decide)
  clear h0_18 h1_18 h4_18 h22_18 u19 F18
  refine wl_p (ex_nil (ad := ⟨b, 0, none⟩) h23_19) (by rw [F19.size]; decide) fun a20 u20 (h24_20 : a20.tmps.getD 24 undef = (.pointer (some ⟨b, 0, none⟩))) => ?_
  have F20 := F19.pt u20
  have h0_20 := u20.v 0 h0_19 (by decide)
  have h1_20 := u20.v 1 h1_19 (by decide)
  have h4_20 := u20.v 4 h4_19 (by decide)
  have h22_20 := u20.v 22 h22_19 (by decide)
  clear h0_19 h1_19 h4_19 h22_19 h23_19 u20 F19
  refine wl_p (ex_fa (T := 70) (f := 1) (k := 1) (b := b) (fun _ _ => by kernel_rfl) h24_20) (by rw [F20.size]; decide) fun a21 u21 (h25_21 : a21.tmps.getD 25 undef = (.pointer (some ⟨b, 1, none⟩))) => ?_
  have F21 := F20.pt u21
  have h0_21 := u21.v 0 h0_20 (by decide)
  have h1_21 := u21.v 1 h1_20 (by decide)
  have h4_21 := u21.v 4 h4_20 (by decide)
  have h22_21 := u21.v 22 h22_20 (by decide)
  clear h0_20 h1_20 h4_20 h22_20 h24_20 u21 F20
  refine wl_p (ex_ld (v := (.int .u64 seq)) (ad := ⟨b, 1, none⟩) (fun _ => by kernel_rfl) h25_21 (Bb_1.cell 1)) (by rw [F21.size]; decide) fun a22 u22 (h26_22 : a22.tmps.getD 26 undef = (.int .u64 seq)) => ?_
  have F22 := F21.pt u22
  have h0_22 := u22.v 0 h0_21 (by decide)
  have h1_22 := u22.v 1 h1_21 (by decide)
  have h4_22 := u22.v 4 h4_21 (by decide)
  have h22_22 := u22.v 22 h22_21 (by decide)
  clear h0_21 h1_21 h4_21 h22_21 h25_21 u22 F21
  refine wl_p (ex_nil (ad := ⟨q, 0, none⟩) h22_22) (by rw [F22.size]; decide) fun a23 u23 (h27_23 : a23.tmps.getD 27 undef = (.pointer (some ⟨q, 0, none⟩))) => ?_
  have F23 := F22.pt u23
  have h0_23 := u23.v 0 h0_22 (by decide)
  have h1_23 := u23.v 1 h1_22 (by decide)
  have h4_23 := u23.v 4 h4_22 (by decide)
  have h26_23 := u23.v 26 h26_22 (by decide)
  clear h0_22 h1_22 h4_22 h22_22 h26_22 u23 F22
  refine wl_p (ex_fa (T := 96) (f := 0) (k := 0) (b := q) (fun _ _ => by kernel_rfl) h27_23) (by rw [F23.size]; decide) fun a24 u24 (h28_24 : a24.tmps.getD 28 undef = (.pointer (some ⟨q, 0, none⟩))) => ?_
  have F24 := F23.pt u24
  have h0_24 := u24.v 0 h0_23 (by decide)
  have h1_24 := u24.v 1 h1_23 (by decide)
  have h4_24 := u24.v 4 h4_23 (by decide)
  have h26_24 := u24.v 26 h26_23 (by decide)
  clear h0_23 h1_23 h4_23 h26_23 h27_23 u24 F23
  obtain ⟨w2, hr2, Bq_2, G2⟩ := st_run (T := 25) (o := 0) (v := (.int .u64 seq)) (cs' := #[(.int .u64 seq), s1, s2, (.float .f64 y), s4, s5, s6, s7, s8, s9, s10]) (fun _ => by kernel_rfl) Bq_1 rfl (by simp) rfl
  have Bb_2 := Bb_1.gk G2 (Ne.symm hqb)
  have Bg_2 := Bg_1.gk G2 hgq
  have Bv_2 := Bv_1.gk G2 hvq
  have Kp2 := Kp1.set G2 (Or.inl (by simp))
  refine wl_n (ex_st h28_24 h26_24 hr2) ?_
  clear Bb_1 Bg_1 Bv_1 Kp1 Bq_1 hr2 G2
  change Code.wp _ _ _ _ _
  refine wp_seq ?_
  refine wp_seq ?_
  refine rg_list ?_
  refine wl_p (ex_mv (v := (.pointer (some ⟨b, 0, none⟩))) h0_24) (by rw [F24.size]; decide) fun a25 u25 (h29_25 : a25.tmps.getD 29 undef = (.pointer (some ⟨b, 0, none⟩))) => ?_
  have F25 := F24.pt u25
  have h0_25 := u25.v 0 h0_24 (by decide)
  have h1_25 := u25.v 1 h1_24 (by decide)
  have h4_25 := u25.v 4 h4_24 (by decide)
  clear h0_24 h1_24 h4_24 h26_24 h28_24 u25 F24
  refine wl_p (ex_nil (ad := ⟨b, 0, none⟩) h29_25) (by rw [F25.size]; decide) fun a26 u26 (h30_26 : a26.tmps.getD 30 undef = (.pointer (some ⟨b, 0, none⟩))) => ?_
  have F26 := F25.pt u26
  have h0_26 := u26.v 0 h0_25 (by decide)
  have h1_26 := u26.v 1 h1_25 (by decide)
  have h4_26 := u26.v 4 h4_25 (by decide)
  clear h0_25 h1_25 h4_25 h29_25 u26 F25
  refine wl_p (ex_fa (T := 70) (f := 16) (k := 16) (b := b) (fun _ _ => by kernel_rfl) h30_26) (by rw [F26.size]; decide) fun a27 u27 (h31_27 : a27.tmps.getD 31 undef = (.pointer (some ⟨b, 16, none⟩))) => ?_
  have F27 := F26.pt u27
  have h0_27 := u27.v 0 h0_26 (by decide)
  have h1_27 := u27.v 1 h1_26 (by decide)
  have h4_27 := u27.v 4 h4_26 (by decide)
  clear h0_26 h1_26 h4_26 h30_26 u27 F26
  refine wl_p (ex_ld (v := (.int .u64 t)) (ad := ⟨b, 16, none⟩) (fun _ => by kernel_rfl) h31_27 (Bb_2.cell 16)) (by rw [F27.size]; decide) fun a28 u28 (h32_28 : a28.tmps.getD 32 undef = (.int .u64 t)) => ?_
  have F28 := F27.pt u28
  have h0_28 := u28.v 0 h0_27 (by decide)
  have h1_28 := u28.v 1 h1_27 (by decide)
  have h4_28 := u28.v 4 h4_27 (by decide)
  clear h0_27 h1_27 h4_27 h31_27 u28 F27
  refine wl_p (ex_bin (vx := (.int .u64 t)) (vy := (.int .u64 0)) (v := (.bool true)) h32_28 rfl ((bo_gtru _ _ _).trans (by rw [decide_eq_true (by omega)]))) (by rw [F28.size]; decide) fun a29 u29 (h33_29 : a29.tmps.getD 33 undef = (.bool true)) => ?_
  have F29 := F28.pt u29
  have h0_29 := u29.v 0 h0_28 (by decide)
  have h1_29 := u29.v 1 h1_28 (by decide)
  have h4_29 := u29.v 4 h4_28 (by decide)
  clear h0_28 h1_28 h4_28 h32_28 u29 F28
  change Code.wp _ _ _ _ _
  refine wp_cond_true h33_29 ?_
  obtain ⟨w3, hw3⟩ : ∃ w, w = w2.drew := ⟨_, rfl⟩
  have G3 : w2.grownBy w3 none := hw3 ▸ grown_drew _
  have Bb_3 := Bb_2.gn G3
  have Bg_3 := Bg_2.gn G3
  have Bq_3 := Bq_2.gn G3
  have Bv_3 := Bv_2.gn G3
  have Kp3 := Kp2.new G3
  refine rg_stillt 28 hw3 hmix (by kernel_rfl) ?_
  clear Bb_2 Bg_2 Bq_2 Bv_2 Kp2 hw3 G3
  refine st_p (ex_mv (v := (.pointer (some ⟨q, 0, none⟩))) h1_29) (by rw [F29.size]; decide) fun a30 u30 (h34_30 : a30.tmps.getD 34 undef = (.pointer (some ⟨q, 0, none⟩))) => ?_
  have F30 := F29.pt u30
  have h0_30 := u30.v 0 h0_29 (by decide)
  have h1_30 := u30.v 1 h1_29 (by decide)
  have h4_30 := u30.v 4 h4_29 (by decide)
  clear h0_29 h1_29 h4_29 h33_29 u30 F29
  refine st_p (ex_mv (v := (.pointer (some ⟨b, 0, none⟩))) h0_30) (by rw [F30.size]; decide) fun a31 u31 (h35_31 : a31.tmps.getD 35 undef = (.pointer (some ⟨b, 0, none⟩))) => ?_
  have F31 := F30.pt u31
  have h0_31 := u31.v 0 h0_30 (by decide)
  have h1_31 := u31.v 1 h1_30 (by decide)
  have h4_31 := u31.v 4 h4_30 (by decide)
  have h34_31 := u31.v 34 h34_30 (by decide)
  clear h0_30 h1_30 h4_30 h34_30 u31 F30
  refine st_p (ex_nil (ad := ⟨b, 0, none⟩) h35_31) (by rw [F31.size]; decide) fun a32 u32 (h36_32 : a32.tmps.getD 36 undef = (.pointer (some ⟨b, 0, none⟩))) => ?_
  have F32 := F31.pt u32
  have h0_32 := u32.v 0 h0_31 (by decide)
  have h1_32 := u32.v 1 h1_31 (by decide)
  have h4_32 := u32.v 4 h4_31 (by decide)
  have h34_32 := u32.v 34 h34_31 (by decide)
  clear h0_31 h1_31 h4_31 h34_31 h35_31 u32 F31
  refine st_p (ex_fa (T := 70) (f := 2) (k := 2) (b := b) (fun _ _ => by kernel_rfl) h36_32) (by rw [F32.size]; decide) fun a33 u33 (h37_33 : a33.tmps.getD 37 undef = (.pointer (some ⟨b, 2, none⟩))) => ?_
  have F33 := F32.pt u33
  have h0_33 := u33.v 0 h0_32 (by decide)
  have h1_33 := u33.v 1 h1_32 (by decide)
  have h4_33 := u33.v 4 h4_32 (by decide)
  have h34_33 := u33.v 34 h34_32 (by decide)
  clear h0_32 h1_32 h4_32 h34_32 h36_32 u33 F32
  refine st_p (ex_ld (v := (.slice (some ⟨g, 0, none⟩) cap cap)) (ad := ⟨b, 2, none⟩) (fun _ => by kernel_rfl) h37_33 (Bb_3.cell 2)) (by rw [F33.size]; decide) fun a34 u34 (h38_34 : a34.tmps.getD 38 undef = (.slice (some ⟨g, 0, none⟩) cap cap)) => ?_
  have F34 := F33.pt u34
  have h0_34 := u34.v 0 h0_33 (by decide)
  have h1_34 := u34.v 1 h1_33 (by decide)
  have h4_34 := u34.v 4 h4_33 (by decide)
  have h34_34 := u34.v 34 h34_33 (by decide)
  clear h0_33 h1_33 h4_33 h34_33 h37_33 u34 F33
  refine st_p (ex_mv (v := (.pointer (some ⟨b, 0, none⟩))) h0_34) (by rw [F34.size]; decide) fun a35 u35 (h39_35 : a35.tmps.getD 39 undef = (.pointer (some ⟨b, 0, none⟩))) => ?_
  have F35 := F34.pt u35
  have h0_35 := u35.v 0 h0_34 (by decide)
  have h1_35 := u35.v 1 h1_34 (by decide)
  have h4_35 := u35.v 4 h4_34 (by decide)
  have h34_35 := u35.v 34 h34_34 (by decide)
  have h38_35 := u35.v 38 h38_34 (by decide)
  clear h0_34 h1_34 h4_34 h34_34 h38_34 u35 F34
  refine st_p (ex_nil (ad := ⟨b, 0, none⟩) h39_35) (by rw [F35.size]; decide) fun a36 u36 (h40_36 : a36.tmps.getD 40 undef = (.pointer (some ⟨b, 0, none⟩))) => ?_
  have F36 := F35.pt u36
  have h0_36 := u36.v 0 h0_35 (by decide)
  have h1_36 := u36.v 1 h1_35 (by decide)
  have h4_36 := u36.v 4 h4_35 (by decide)
  have h34_36 := u36.v 34 h34_35 (by decide)
  have h38_36 := u36.v 38 h38_35 (by decide)
  clear h0_35 h1_35 h4_35 h34_35 h38_35 h39_35 u36 F35
  refine st_p (ex_fa (T := 70) (f := 13) (k := 13) (b := b) (fun _ _ => by kernel_rfl) h40_36) (by rw [F36.size]; decide) fun a37 u37 (h41_37 : a37.tmps.getD 41 undef = (.pointer (some ⟨b, 13, none⟩))) => ?_
  have F37 := F36.pt u37
  have h0_37 := u37.v 0 h0_36 (by decide)
  have h1_37 := u37.v 1 h1_36 (by decide)
  have h4_37 := u37.v 4 h4_36 (by decide)
  have h34_37 := u37.v 34 h34_36 (by decide)
  have h38_37 := u37.v 38 h38_36 (by decide)
  clear h0_36 h1_36 h4_36 h34_36 h38_36 h40_36 u37 F36
  refine st_p (ex_ld (v := (.int .u64 cap)) (ad := ⟨b, 13, none⟩) (fun _ => by kernel_rfl) h41_37 (Bb_3.cell 13)) (by rw [F37.size]; decide) fun a38 u38 (h42_38 : a38.tmps.getD 42 undef = (.int .u64 cap)) => ?_
  have F38 := F37.pt u38
  have h0_38 := u38.v 0 h0_37 (by decide)
  have h1_38 := u38.v 1 h1_37 (by decide)
  have h4_38 := u38.v 4 h4_37 (by decide)
  have h34_38 := u38.v 34 h34_37 (by decide)
  have h38_38 := u38.v 38 h38_37 (by decide)
  clear h0_37 h1_37 h4_37 h34_37 h38_37 h41_37 u38 F37
  refine st_p (ex_mv (v := (.pointer (some ⟨b, 0, none⟩))) h0_38) (by rw [F38.size]; decide) fun a39 u39 (h43_39 : a39.tmps.getD 43 undef = (.pointer (some ⟨b, 0, none⟩))) => ?_
  have F39 := F38.pt u39
  have h0_39 := u39.v 0 h0_38 (by decide)
  have h1_39 := u39.v 1 h1_38 (by decide)
  have h4_39 := u39.v 4 h4_38 (by decide)
  have h34_39 := u39.v 34 h34_38 (by decide)
  have h38_39 := u39.v 38 h38_38 (by decide)
  have h42_39 := u39.v 42 h42_38 (by decide)
  clear h0_38 h1_38 h4_38 h34_38 h38_38 h42_38 u39 F38
  refine st_p (ex_nil (ad := ⟨b, 0, none⟩) h43_39) (by rw [F39.size]; decide) fun a40 u40 (h44_40 : a40.tmps.getD 44 undef = (.pointer (some ⟨b, 0, none⟩))) => ?_
  have F40 := F39.pt u40
  have h0_40 := u40.v 0 h0_39 (by decide)
  have h1_40 := u40.v 1 h1_39 (by decide)
  have h4_40 := u40.v 4 h4_39 (by decide)
  have h34_40 := u40.v 34 h34_39 (by decide)
  have h38_40 := u40.v 38 h38_39 (by decide)
  have h42_40 := u40.v 42 h42_39 (by decide)
  clear h0_39 h1_39 h4_39 h34_39 h38_39 h42_39 h43_39 u40 F39
  refine st_p (ex_fa (T := 70) (f := 15) (k := 15) (b := b) (fun _ _ => by kernel_rfl) h44_40) (by rw [F40.size]; decide) fun a41 u41 (h45_41 : a41.tmps.getD 45 undef = (.pointer (some ⟨b, 15, none⟩))) => ?_
  have F41 := F40.pt u41
  have h0_41 := u41.v 0 h0_40 (by decide)
  have h1_41 := u41.v 1 h1_40 (by decide)
  have h4_41 := u41.v 4 h4_40 (by decide)
  have h34_41 := u41.v 34 h34_40 (by decide)
  have h38_41 := u41.v 38 h38_40 (by decide)
  have h42_41 := u41.v 42 h42_40 (by decide)
  clear h0_40 h1_40 h4_40 h34_40 h38_40 h42_40 h44_40 u41 F40
  refine st_p (ex_ld (v := (.int .u64 t)) (ad := ⟨b, 15, none⟩) (fun _ => by kernel_rfl) h45_41 (Bb_3.cell 15)) (by rw [F41.size]; decide) fun a42 u42 (h46_42 : a42.tmps.getD 46 undef = (.int .u64 t)) => ?_
  have F42 := F41.pt u42
  have h0_42 := u42.v 0 h0_41 (by decide)
  have h1_42 := u42.v 1 h1_41 (by decide)
  have h4_42 := u42.v 4 h4_41 (by decide)
  have h34_42 := u42.v 34 h34_41 (by decide)
  have h38_42 := u42.v 38 h38_41 (by decide)
  have h42_42 := u42.v 42 h42_41 (by decide)
  clear h0_41 h1_41 h4_41 h34_41 h38_41 h42_41 h45_41 u42 F41
  refine st_p (ex_bin (vx := (.int .u64 cap)) (vy := (.int .u64 t)) (v := (.int .u64 (cap + t))) h42_42 h46_42 (bo_addu _ _ _ (by omega) (by omega))) (by rw [F42.size]; decide) fun a43 u43 (h47_43 : a43.tmps.getD 47 undef = (.int .u64 (cap + t))) => ?_
  have F43 := F42.pt u43
  have h0_43 := u43.v 0 h0_42 (by decide)
  have h1_43 := u43.v 1 h1_42 (by decide)
  have h4_43 := u43.v 4 h4_42 (by decide)
  have h34_43 := u43.v 34 h34_42 (by decide)
  have h38_43 := u43.v 38 h38_42 (by decide)
  clear h0_42 h1_42 h4_42 h34_42 h38_42 h42_42 h46_42 u43 F42
  refine st_p (ex_bin (vx := (.int .u64 (cap + t))) (vy := (.int .u64 1)) (v := (.int .u64 (cap + t - 1))) h47_43 rfl (bo_subu _ _ _ (by omega) (by omega))) (by rw [F43.size]; decide) fun a44 u44 (h48_44 : a44.tmps.getD 48 undef = (.int .u64 (cap + t - 1))) => ?_
  have F44 := F43.pt u44
  have h0_44 := u44.v 0 h0_43 (by decide)
  have h1_44 := u44.v 1 h1_43 (by decide)
  have h4_44 := u44.v 4 h4_43 (by decide)
  have h34_44 := u44.v 34 h34_43 (by decide)
  have h38_44 := u44.v 38 h38_43 (by decide)
  clear h0_43 h1_43 h4_43 h34_43 h38_43 h47_43 u44 F43
  refine st_p (ex_mv (v := (.pointer (some ⟨b, 0, none⟩))) h0_44) (by rw [F44.size]; decide) fun a45 u45 (h49_45 : a45.tmps.getD 49 undef = (.pointer (some ⟨b, 0, none⟩))) => ?_
  have F45 := F44.pt u45
  have h0_45 := u45.v 0 h0_44 (by decide)
  have h1_45 := u45.v 1 h1_44 (by decide)
  have h4_45 := u45.v 4 h4_44 (by decide)
  have h34_45 := u45.v 34 h34_44 (by decide)
  have h38_45 := u45.v 38 h38_44 (by decide)
  have h48_45 := u45.v 48 h48_44 (by decide)
  clear h0_44 h1_44 h4_44 h34_44 h38_44 h48_44 u45 F44
  refine st_p (ex_nil (ad := ⟨b, 0, none⟩) h49_45) (by rw [F45.size]; decide) fun a46 u46 (h50_46 : a46.tmps.getD 50 undef = (.pointer (some ⟨b, 0, none⟩))) => ?_
  have F46 := F45.pt u46
  have h0_46 := u46.v 0 h0_45 (by decide)
  have h1_46 := u46.v 1 h1_45 (by decide)
  have h4_46 := u46.v 4 h4_45 (by decide)
  have h34_46 := u46.v 34 h34_45 (by decide)
  have h38_46 := u46.v 38 h38_45 (by decide)
  have h48_46 := u46.v 48 h48_45 (by decide)
  clear h0_45 h1_45 h4_45 h34_45 h38_45 h48_45 h49_45 u46 F45
  refine st_p (ex_fa (T := 70) (f := 13) (k := 13) (b := b) (fun _ _ => by kernel_rfl) h50_46) (by rw [F46.size]; decide) fun a47 u47 (h51_47 : a47.tmps.getD 51 undef = (.pointer (some ⟨b, 13, none⟩))) => ?_
  have F47 := F46.pt u47
  have h0_47 := u47.v 0 h0_46 (by decide)
  have h1_47 := u47.v 1 h1_46 (by decide)
  have h4_47 := u47.v 4 h4_46 (by decide)
  have h34_47 := u47.v 34 h34_46 (by decide)
  have h38_47 := u47.v 38 h38_46 (by decide)
  have h48_47 := u47.v 48 h48_46 (by decide)
  clear h0_46 h1_46 h4_46 h34_46 h38_46 h48_46 h50_46 u47 F46
  refine st_p (ex_ld (v := (.int .u64 cap)) (ad := ⟨b, 13, none⟩) (fun _ => by kernel_rfl) h51_47 (Bb_3.cell 13)) (by rw [F47.size]; decide) fun a48 u48 (h52_48 : a48.tmps.getD 52 undef = (.int .u64 cap)) => ?_
  have F48 := F47.pt u48
  have h0_48 := u48.v 0 h0_47 (by decide)
  have h1_48 := u48.v 1 h1_47 (by decide)
  have h4_48 := u48.v 4 h4_47 (by decide)
  have h34_48 := u48.v 34 h34_47 (by decide)
  have h38_48 := u48.v 38 h38_47 (by decide)
  have h48_48 := u48.v 48 h48_47 (by decide)
  clear h0_47 h1_47 h4_47 h34_47 h38_47 h48_47 h51_47 u48 F47
  refine st_p (ex_bin (vx := (.int .u64 (cap + t - 1))) (vy := (.int .u64 cap)) (v := (.int .u64 j)) h48_48 h52_48 ((bo_remu _ _ _ (by omega) (by omega) (by omega)).trans (by rw [show ((cap : Int) + t - 1) % cap = j from by rw [show (cap : Int) + t - 1 = j + cap from by omega, Int.add_emod_right]; exact Int.emod_eq_of_lt (by omega) (by omega)]))) (by rw [F48.size]; decide) fun a49 u49 (h53_49 : a49.tmps.getD 53 undef = (.int .u64 j)) => ?_
  have F49 := F48.pt u49
  have h0_49 := u49.v 0 h0_48 (by decide)
  have h1_49 := u49.v 1 h1_48 (by decide)
  have h4_49 := u49.v 4 h4_48 (by decide)
  have h34_49 := u49.v 34 h34_48 (by decide)
  have h38_49 := u49.v 38 h38_48 (by decide)
  clear h0_48 h1_48 h4_48 h34_48 h38_48 h48_48 h52_48 u49 F48
  refine st_p (ex_ixg (vx := (.slice (some ⟨g, 0, none⟩) cap cap)) (vy := (.int .u64 j)) (v := (.pointer (some ⟨g, j, none⟩))) h38_49 h53_49 (ix_run g cap j (by omega) _)) (by rw [F49.size]; decide) fun a50 u50 (h54_50 : a50.tmps.getD 54 undef = (.pointer (some ⟨g, j, none⟩))) => ?_
  have F50 := F49.pt u50
  have h0_50 := u50.v 0 h0_49 (by decide)
  have h1_50 := u50.v 1 h1_49 (by decide)
  have h4_50 := u50.v 4 h4_49 (by decide)
  have h34_50 := u50.v 34 h34_49 (by decide)
  clear h0_49 h1_49 h4_49 h34_49 h38_49 h53_49 u50 F49
  refine st_p (ex_ld (v := pt v) (ad := ⟨g, j, none⟩) (fun _ => by kernel_rfl) h54_50 ((Bg_3.cell j).trans harr)) (by rw [F50.size]; decide) fun a51 u51 (h55_51 : a51.tmps.getD 55 undef = (.pointer (some ⟨v, 0, none⟩))) => ?_
  have F51 := F50.pt u51
  have h0_51 := u51.v 0 h0_50 (by decide)
  have h1_51 := u51.v 1 h1_50 (by decide)
  have h4_51 := u51.v 4 h4_50 (by decide)
  have h34_51 := u51.v 34 h34_50 (by decide)
  clear h0_50 h1_50 h4_50 h34_50 h54_50 u51 F50
  refine st_p (ex_nil (ad := ⟨v, 0, none⟩) h55_51) (by rw [F51.size]; decide) fun a52 u52 (h56_52 : a52.tmps.getD 56 undef = (.pointer (some ⟨v, 0, none⟩))) => ?_
  have F52 := F51.pt u52
  have h0_52 := u52.v 0 h0_51 (by decide)
  have h1_52 := u52.v 1 h1_51 (by decide)
  have h4_52 := u52.v 4 h4_51 (by decide)
  have h34_52 := u52.v 34 h34_51 (by decide)
  clear h0_51 h1_51 h4_51 h34_51 h55_51 u52 F51
  refine st_p (ex_fa (T := 96) (f := 0) (k := 0) (b := v) (fun _ _ => by kernel_rfl) h56_52) (by rw [F52.size]; decide) fun a53 u53 (h57_53 : a53.tmps.getD 57 undef = (.pointer (some ⟨v, 0, none⟩))) => ?_
  have F53 := F52.pt u53
  have h0_53 := u53.v 0 h0_52 (by decide)
  have h1_53 := u53.v 1 h1_52 (by decide)
  have h4_53 := u53.v 4 h4_52 (by decide)
  have h34_53 := u53.v 34 h34_52 (by decide)
  clear h0_52 h1_52 h4_52 h34_52 h56_52 u53 F52
  refine st_p (ex_ld (v := (.int .u64 num)) (ad := ⟨v, 0, none⟩) (fun _ => by kernel_rfl) h57_53 (Bv_3.cell 0)) (by rw [F53.size]; decide) fun a54 u54 (h58_54 : a54.tmps.getD 58 undef = (.int .u64 num)) => ?_
  have F54 := F53.pt u54
  have h0_54 := u54.v 0 h0_53 (by decide)
  have h1_54 := u54.v 1 h1_53 (by decide)
  have h4_54 := u54.v 4 h4_53 (by decide)
  have h34_54 := u54.v 34 h34_53 (by decide)
  clear h0_53 h1_53 h4_53 h34_53 h57_53 u54 F53
  refine st_p (ex_bin (vx := (.int .u64 num)) (vy := (.int .u64 1)) (v := (.int .u64 (num + 1))) h58_54 rfl (bo_add64 _ _ _ (by omega) (by omega))) (by rw [F54.size]; decide) fun a55 u55 (h59_55 : a55.tmps.getD 59 undef = (.int .u64 (num + 1))) => ?_
  have F55 := F54.pt u55
  have h0_55 := u55.v 0 h0_54 (by decide)
  have h1_55 := u55.v 1 h1_54 (by decide)
  have h4_55 := u55.v 4 h4_54 (by decide)
  have h34_55 := u55.v 34 h34_54 (by decide)
  clear h0_54 h1_54 h4_54 h34_54 h58_54 u55 F54
  refine st_p (ex_nil (ad := ⟨q, 0, none⟩) h34_55) (by rw [F55.size]; decide) fun a56 u56 (h60_56 : a56.tmps.getD 60 undef = (.pointer (some ⟨q, 0, none⟩))) => ?_
  have F56 := F55.pt u56
  have h0_56 := u56.v 0 h0_55 (by decide)
  have h1_56 := u56.v 1 h1_55 (by decide)
  have h4_56 := u56.v 4 h4_55 (by decide)
  have h59_56 := u56.v 59 h59_55 (by decide)
  clear h0_55 h1_55 h4_55 h34_55 h59_55 u56 F55
  refine st_p (ex_fa (T := 96) (f := 0) (k := 0) (b := q) (fun _ _ => by kernel_rfl) h60_56) (by rw [F56.size]; decide) fun a57 u57 (h61_57 : a57.tmps.getD 61 undef = (.pointer (some ⟨q, 0, none⟩))) => ?_
  have F57 := F56.pt u57
  have h0_57 := u57.v 0 h0_56 (by decide)
  have h1_57 := u57.v 1 h1_56 (by decide)
  have h4_57 := u57.v 4 h4_56 (by decide)
  have h59_57 := u57.v 59 h59_56 (by decide)
  clear h0_56 h1_56 h4_56 h59_56 h60_56 u57 F56
  obtain ⟨w4, hr4, Bq_4, G4⟩ := st_run (T := 25) (o := 0) (v := (.int .u64 (num + 1))) (cs' := #[(.int .u64 (num + 1)), s1, s2, (.float .f64 y), s4, s5, s6, s7, s8, s9, s10]) (fun _ => by kernel_rfl) Bq_3 rfl (by simp) rfl
  have Bb_4 := Bb_3.gk G4 (Ne.symm hqb)
  have Bg_4 := Bg_3.gk G4 hgq
  have Bv_4 := Bv_3.gk G4 hvq
  have Kp4 := Kp3.set G4 (Or.inl (by simp))
  refine wl_n (ex_st h61_57 h59_57 hr4) ?_
  clear Bb_3 Bg_3 Bv_3 Kp3 Bq_3 hr4 G4
  change Code.wp _ _ _ _ _
  refine wp_seq ?_
  obtain ⟨w5, hw5⟩ : ∃ w, w = w4.drew := ⟨_, rfl⟩
  have G5 : w4.grownBy w5 none := hw5 ▸ grown_drew _
  have Bb_5 := Bb_4.gn G5
  have Bg_5 := Bg_4.gn G5
  have Bq_5 := Bq_4.gn G5
  have Bv_5 := Bv_4.gn G5
  have Kp5 := Kp4.new G5
  refine rg_stillt 10 hw5 hmix (by kernel_rfl) ?_
  clear Bb_4 Bg_4 Bq_4 Bv_4 Kp4 hw5 G5
  refine st_p (ex_mv (v := (.pointer (some ⟨b, 0, none⟩))) h0_57) (by rw [F57.size]; decide) fun a58 u58 (h62_58 : a58.tmps.getD 62 undef = (.pointer (some ⟨b, 0, none⟩))) => ?_
  have F58 := F57.pt u58
  have h0_58 := u58.v 0 h0_57 (by decide)
  have h1_58 := u58.v 1 h1_57 (by decide)
  have h4_58 := u58.v 4 h4_57 (by decide)
  clear h0_57 h1_57 h4_57 h59_57 h61_57 u58 F57
  refine st_p (ex_nil (ad := ⟨b, 0, none⟩) h62_58) (by rw [F58.size]; decide) fun a59 u59 (h63_59 : a59.tmps.getD 63 undef = (.pointer (some ⟨b, 0, none⟩))) => ?_
  have F59 := F58.pt u59
  have h0_59 := u59.v 0 h0_58 (by decide)
  have h1_59 := u59.v 1 h1_58 (by decide)
  have h4_59 := u59.v 4 h4_58 (by decide)
  clear h0_58 h1_58 h4_58 h62_58 u59 F58
  refine st_p (ex_fa (T := 70) (f := 2) (k := 2) (b := b) (fun _ _ => by kernel_rfl) h63_59) (by rw [F59.size]; decide) fun a60 u60 (h64_60 : a60.tmps.getD 64 undef = (.pointer (some ⟨b, 2, none⟩))) => ?_
  have F60 := F59.pt u60
  have h0_60 := u60.v 0 h0_59 (by decide)
  have h1_60 := u60.v 1 h1_59 (by decide)
  have h4_60 := u60.v 4 h4_59 (by decide)
  clear h0_59 h1_59 h4_59 h63_59 u60 F59
  refine st_p (ex_ld (v := (.slice (some ⟨g, 0, none⟩) cap cap)) (ad := ⟨b, 2, none⟩) (fun _ => by kernel_rfl) h64_60 (Bb_5.cell 2)) (by rw [F60.size]; decide) fun a61 u61 (h65_61 : a61.tmps.getD 65 undef = (.slice (some ⟨g, 0, none⟩) cap cap)) => ?_
  have F61 := F60.pt u61
  have h0_61 := u61.v 0 h0_60 (by decide)
  have h1_61 := u61.v 1 h1_60 (by decide)
  have h4_61 := u61.v 4 h4_60 (by decide)
  clear h0_60 h1_60 h4_60 h64_60 u61 F60
  refine st_p (ex_mv (v := (.pointer (some ⟨b, 0, none⟩))) h0_61) (by rw [F61.size]; decide) fun a62 u62 (h66_62 : a62.tmps.getD 66 undef = (.pointer (some ⟨b, 0, none⟩))) => ?_
  have F62 := F61.pt u62
  have h0_62 := u62.v 0 h0_61 (by decide)
  have h1_62 := u62.v 1 h1_61 (by decide)
  have h4_62 := u62.v 4 h4_61 (by decide)
  have h65_62 := u62.v 65 h65_61 (by decide)
  clear h0_61 h1_61 h4_61 h65_61 u62 F61
  refine st_p (ex_nil (ad := ⟨b, 0, none⟩) h66_62) (by rw [F62.size]; decide) fun a63 u63 (h67_63 : a63.tmps.getD 67 undef = (.pointer (some ⟨b, 0, none⟩))) => ?_
  have F63 := F62.pt u63
  have h0_63 := u63.v 0 h0_62 (by decide)
  have h1_63 := u63.v 1 h1_62 (by decide)
  have h4_63 := u63.v 4 h4_62 (by decide)
  have h65_63 := u63.v 65 h65_62 (by decide)
  clear h0_62 h1_62 h4_62 h65_62 h66_62 u63 F62
  refine st_p (ex_fa (T := 70) (f := 15) (k := 15) (b := b) (fun _ _ => by kernel_rfl) h67_63) (by rw [F63.size]; decide) fun a64 u64 (h68_64 : a64.tmps.getD 68 undef = (.pointer (some ⟨b, 15, none⟩))) => ?_
  have F64 := F63.pt u64
  have h0_64 := u64.v 0 h0_63 (by decide)
  have h1_64 := u64.v 1 h1_63 (by decide)
  have h4_64 := u64.v 4 h4_63 (by decide)
  have h65_64 := u64.v 65 h65_63 (by decide)
  clear h0_63 h1_63 h4_63 h65_63 h67_63 u64 F63
  refine st_p (ex_ld (v := (.int .u64 t)) (ad := ⟨b, 15, none⟩) (fun _ => by kernel_rfl) h68_64 (Bb_5.cell 15)) (by rw [F64.size]; decide) fun a65 u65 (h69_65 : a65.tmps.getD 69 undef = (.int .u64 t)) => ?_
  have F65 := F64.pt u65
  have h0_65 := u65.v 0 h0_64 (by decide)
  have h1_65 := u65.v 1 h1_64 (by decide)
  have h4_65 := u65.v 4 h4_64 (by decide)
  have h65_65 := u65.v 65 h65_64 (by decide)
  clear h0_64 h1_64 h4_64 h65_64 h68_64 u65 F64
  refine st_p (ex_mv (v := (.pointer (some ⟨q, 0, none⟩))) h1_65) (by rw [F65.size]; decide) fun a66 u66 (h70_66 : a66.tmps.getD 70 undef = (.pointer (some ⟨q, 0, none⟩))) => ?_
  have F66 := F65.pt u66
  have h0_66 := u66.v 0 h0_65 (by decide)
  have h1_66 := u66.v 1 h1_65 (by decide)
  have h4_66 := u66.v 4 h4_65 (by decide)
  have h65_66 := u66.v 65 h65_65 (by decide)
  have h69_66 := u66.v 69 h69_65 (by decide)
  clear h0_65 h1_65 h4_65 h65_65 h69_65 u66 F65
  refine st_p (ex_ixg (vx := (.slice (some ⟨g, 0, none⟩) cap cap)) (vy := (.int .u64 t)) (v := (.pointer (some ⟨g, t, none⟩))) h65_66 h69_66 (ix_run g cap t (by omega) _)) (by rw [F66.size]; decide) fun a67 u67 (h71_67 : a67.tmps.getD 71 undef = (.pointer (some ⟨g, t, none⟩))) => ?_
  have F67 := F66.pt u67
  have h0_67 := u67.v 0 h0_66 (by decide)
  have h1_67 := u67.v 1 h1_66 (by decide)
  have h4_67 := u67.v 4 h4_66 (by decide)
  have h70_67 := u67.v 70 h70_66 (by decide)
  clear h0_66 h1_66 h4_66 h65_66 h69_66 h70_66 u67 F66
  obtain ⟨w6, hr6, Bg_6, G6⟩ := st_run (T := 74) (o := t) (v := (.pointer (some ⟨q, 0, none⟩))) (cs' := (arr.setIfInBounds t (.pointer (some ⟨q, 0, none⟩)))) (fun _ => by kernel_rfl) Bg_5 rfl (hin) rfl
  have Bb_6 := Bb_5.gk G6 (Ne.symm hgb)
  have Bq_6 := Bq_5.gk G6 (Ne.symm hgq)
  have Bv_6 := Bv_5.gk G6 (Ne.symm hgv)
  have Kp6 := Kp5.set G6 (Or.inl (by simp))
  refine wl_n (ex_st h71_67 h70_67 hr6) ?_
  clear Bb_5 Bq_5 Bv_5 Kp5 Bg_5 hr6 G6
  change Code.wp _ _ _ _ _
  refine wp_seq ?_
  obtain ⟨w7, hw7⟩ : ∃ w, w = w6.drew := ⟨_, rfl⟩
  have G7 : w6.grownBy w7 none := hw7 ▸ grown_drew _
  have Bb_7 := Bb_6.gn G7
  have Bg_7 := Bg_6.gn G7
  have Bq_7 := Bq_6.gn G7
  have Bv_7 := Bv_6.gn G7
  have Kp7 := Kp6.new G7
  refine rg_stillt 13 hw7 hmix (by kernel_rfl) ?_
  clear Bb_6 Bg_6 Bq_6 Bv_6 Kp6 hw7 G7
  refine st_p (ex_mv (v := (.pointer (some ⟨b, 0, none⟩))) h0_67) (by rw [F67.size]; decide) fun a68 u68 (h72_68 : a68.tmps.getD 72 undef = (.pointer (some ⟨b, 0, none⟩))) => ?_
  have F68 := F67.pt u68
  have h0_68 := u68.v 0 h0_67 (by decide)
  have h1_68 := u68.v 1 h1_67 (by decide)
  have h4_68 := u68.v 4 h4_67 (by decide)
  clear h0_67 h1_67 h4_67 h70_67 h71_67 u68 F67
  refine st_p (ex_mv (v := (.pointer (some ⟨b, 0, none⟩))) h0_68) (by rw [F68.size]; decide) fun a69 u69 (h73_69 : a69.tmps.getD 73 undef = (.pointer (some ⟨b, 0, none⟩))) => ?_
  have F69 := F68.pt u69
  have h0_69 := u69.v 0 h0_68 (by decide)
  have h1_69 := u69.v 1 h1_68 (by decide)
  have h4_69 := u69.v 4 h4_68 (by decide)
  have h72_69 := u69.v 72 h72_68 (by decide)
  clear h0_68 h1_68 h4_68 h72_68 u69 F68
  refine st_p (ex_nil (ad := ⟨b, 0, none⟩) h73_69) (by rw [F69.size]; decide) fun a70 u70 (h74_70 : a70.tmps.getD 74 undef = (.pointer (some ⟨b, 0, none⟩))) => ?_
  have F70 := F69.pt u70
  have h0_70 := u70.v 0 h0_69 (by decide)
  have h1_70 := u70.v 1 h1_69 (by decide)
  have h4_70 := u70.v 4 h4_69 (by decide)
  have h72_70 := u70.v 72 h72_69 (by decide)
  clear h0_69 h1_69 h4_69 h72_69 h73_69 u70 F69
  refine st_p (ex_fa (T := 70) (f := 15) (k := 15) (b := b) (fun _ _ => by kernel_rfl) h74_70) (by rw [F70.size]; decide) fun a71 u71 (h75_71 : a71.tmps.getD 75 undef = (.pointer (some ⟨b, 15, none⟩))) => ?_
  have F71 := F70.pt u71
  have h0_71 := u71.v 0 h0_70 (by decide)
  have h1_71 := u71.v 1 h1_70 (by decide)
  have h4_71 := u71.v 4 h4_70 (by decide)
  have h72_71 := u71.v 72 h72_70 (by decide)
  clear h0_70 h1_70 h4_70 h72_70 h74_70 u71 F70
  refine st_p (ex_ld (v := (.int .u64 t)) (ad := ⟨b, 15, none⟩) (fun _ => by kernel_rfl) h75_71 (Bb_7.cell 15)) (by rw [F71.size]; decide) fun a72 u72 (h76_72 : a72.tmps.getD 76 undef = (.int .u64 t)) => ?_
  have F72 := F71.pt u72
  have h0_72 := u72.v 0 h0_71 (by decide)
  have h1_72 := u72.v 1 h1_71 (by decide)
  have h4_72 := u72.v 4 h4_71 (by decide)
  have h72_72 := u72.v 72 h72_71 (by decide)
  clear h0_71 h1_71 h4_71 h72_71 h75_71 u72 F71
  refine st_p (ex_bin (vx := (.int .u64 t)) (vy := (.int .u64 1)) (v := (.int .u64 (t + 1))) h76_72 rfl (bo_addu _ _ _ (by omega) (by omega))) (by rw [F72.size]; decide) fun a73 u73 (h77_73 : a73.tmps.getD 77 undef = (.int .u64 (t + 1))) => ?_
  have F73 := F72.pt u73
  have h0_73 := u73.v 0 h0_72 (by decide)
  have h1_73 := u73.v 1 h1_72 (by decide)
  have h4_73 := u73.v 4 h4_72 (by decide)
  have h72_73 := u73.v 72 h72_72 (by decide)
  clear h0_72 h1_72 h4_72 h72_72 h76_72 u73 F72
  refine st_p (ex_mv (v := (.pointer (some ⟨b, 0, none⟩))) h0_73) (by rw [F73.size]; decide) fun a74 u74 (h78_74 : a74.tmps.getD 78 undef = (.pointer (some ⟨b, 0, none⟩))) => ?_
  have F74 := F73.pt u74
  have h0_74 := u74.v 0 h0_73 (by decide)
  have h1_74 := u74.v 1 h1_73 (by decide)
  have h4_74 := u74.v 4 h4_73 (by decide)
  have h72_74 := u74.v 72 h72_73 (by decide)
  have h77_74 := u74.v 77 h77_73 (by decide)
  clear h0_73 h1_73 h4_73 h72_73 h77_73 u74 F73
  refine st_p (ex_nil (ad := ⟨b, 0, none⟩) h78_74) (by rw [F74.size]; decide) fun a75 u75 (h79_75 : a75.tmps.getD 79 undef = (.pointer (some ⟨b, 0, none⟩))) => ?_
  have F75 := F74.pt u75
  have h0_75 := u75.v 0 h0_74 (by decide)
  have h1_75 := u75.v 1 h1_74 (by decide)
  have h4_75 := u75.v 4 h4_74 (by decide)
  have h72_75 := u75.v 72 h72_74 (by decide)
  have h77_75 := u75.v 77 h77_74 (by decide)
  clear h0_74 h1_74 h4_74 h72_74 h77_74 h78_74 u75 F74
  refine st_p (ex_fa (T := 70) (f := 13) (k := 13) (b := b) (fun _ _ => by kernel_rfl) h79_75) (by rw [F75.size]; decide) fun a76 u76 (h80_76 : a76.tmps.getD 80 undef = (.pointer (some ⟨b, 13, none⟩))) => ?_
  have F76 := F75.pt u76
  have h0_76 := u76.v 0 h0_75 (by decide)
  have h1_76 := u76.v 1 h1_75 (by decide)
  have h4_76 := u76.v 4 h4_75 (by decide)
  have h72_76 := u76.v 72 h72_75 (by decide)
  have h77_76 := u76.v 77 h77_75 (by decide)
  clear h0_75 h1_75 h4_75 h72_75 h77_75 h79_75 u76 F75
  refine st_p (ex_ld (v := (.int .u64 cap)) (ad := ⟨b, 13, none⟩) (fun _ => by kernel_rfl) h80_76 (Bb_7.cell 13)) (by rw [F76.size]; decide) fun a77 u77 (h81_77 : a77.tmps.getD 81 undef = (.int .u64 cap)) => ?_
  have F77 := F76.pt u77
  have h0_77 := u77.v 0 h0_76 (by decide)
  have h1_77 := u77.v 1 h1_76 (by decide)
  have h4_77 := u77.v 4 h4_76 (by decide)
  have h72_77 := u77.v 72 h72_76 (by decide)
  have h77_77 := u77.v 77 h77_76 (by decide)
  clear h0_76 h1_76 h4_76 h72_76 h77_76 h80_76 u77 F76
  refine st_p (ex_bin (vx := (.int .u64 (t + 1))) (vy := (.int .u64 cap)) (v := (.int .u64 ((t + 1) % cap))) h77_77 h81_77 (bo_remu _ _ _ (by omega) (by omega) (by omega))) (by rw [F77.size]; decide) fun a78 u78 (h82_78 : a78.tmps.getD 82 undef = (.int .u64 ((t + 1) % cap))) => ?_
  have F78 := F77.pt u78
  have h0_78 := u78.v 0 h0_77 (by decide)
  have h1_78 := u78.v 1 h1_77 (by decide)
  have h4_78 := u78.v 4 h4_77 (by decide)
  have h72_78 := u78.v 72 h72_77 (by decide)
  clear h0_77 h1_77 h4_77 h72_77 h77_77 h81_77 u78 F77
  refine st_p (ex_nil (ad := ⟨b, 0, none⟩) h72_78) (by rw [F78.size]; decide) fun a79 u79 (h83_79 : a79.tmps.getD 83 undef = (.pointer (some ⟨b, 0, none⟩))) => ?_
  have F79 := F78.pt u79
  have h0_79 := u79.v 0 h0_78 (by decide)
  have h1_79 := u79.v 1 h1_78 (by decide)
  have h4_79 := u79.v 4 h4_78 (by decide)
  have h82_79 := u79.v 82 h82_78 (by decide)
  clear h0_78 h1_78 h4_78 h72_78 h82_78 u79 F78
  refine st_p (ex_fa (T := 70) (f := 15) (k := 15) (b := b) (fun _ _ => by kernel_rfl) h83_79) (by rw [F79.size]; decide) fun a80 u80 (h84_80 : a80.tmps.getD 84 undef = (.pointer (some ⟨b, 15, none⟩))) => ?_
  have F80 := F79.pt u80
  have h0_80 := u80.v 0 h0_79 (by decide)
  have h1_80 := u80.v 1 h1_79 (by decide)
  have h4_80 := u80.v 4 h4_79 (by decide)
  have h82_80 := u80.v 82 h82_79 (by decide)
  clear h0_79 h1_79 h4_79 h82_79 h83_79 u80 F79
  obtain ⟨w8, hr8, Bb_8, G8⟩ := st_run (T := 50) (o := 15) (v := (.int .u64 ((t + 1) % cap))) (cs' := #[(.float .f64 x), (.int .u64 seq), (.slice (some ⟨g, 0, none⟩) cap cap), c3, c4, c5, c6, c7, c8, c9, c10, c11, c12, (.int .u64 cap), (.int .u64 0), (.int .u64 ((t + 1) % cap)), (.int .u64 t), (.slice none 0 0), (.int .i64 0), (.int .i8 0), c20, c21, c22]) (fun _ => by kernel_rfl) Bb_7 rfl (by simp) rfl
  have Bg_8 := Bg_7.gk G8 hgb
  have Bq_8 := Bq_7.gk G8 hqb
  have Bv_8 := Bv_7.gk G8 hvb
  have Kp8 := Kp7.set G8 (Or.inl (by simp))
  refine wl_n (ex_st h84_80 h82_80 hr8) ?_
  clear Bg_7 Bq_7 Bv_7 Kp7 Bb_7 hr8 G8
  change Code.wp _ _ _ _ _
  refine wp_seq ?_
  refine rg_list ?_
  refine wl_p (ex_mv (v := (.pointer (some ⟨b, 0, none⟩))) h0_80) (by rw [F80.size]; decide) fun a81 u81 (h85_81 : a81.tmps.getD 85 undef = (.pointer (some ⟨b, 0, none⟩))) => ?_
  have F81 := F80.pt u81
  have h0_81 := u81.v 0 h0_80 (by decide)
  have h1_81 := u81.v 1 h1_80 (by decide)
  have h4_81 := u81.v 4 h4_80 (by decide)
  clear h0_80 h1_80 h4_80 h82_80 h84_80 u81 F80
  refine wl_p (ex_nil (ad := ⟨b, 0, none⟩) h85_81) (by rw [F81.size]; decide) fun a82 u82 (h86_82 : a82.tmps.getD 86 undef = (.pointer (some ⟨b, 0, none⟩))) => ?_
  have F82 := F81.pt u82
  have h0_82 := u82.v 0 h0_81 (by decide)
  have h1_82 := u82.v 1 h1_81 (by decide)
  have h4_82 := u82.v 4 h4_81 (by decide)
  have h85_82 := u82.v 85 h85_81 (by decide)
  clear h0_81 h1_81 h4_81 h85_81 u82 F81
  refine wl_p (ex_fa (T := 70) (f := 16) (k := 16) (b := b) (fun _ _ => by kernel_rfl) h86_82) (by rw [F82.size]; decide) fun a83 u83 (h87_83 : a83.tmps.getD 87 undef = (.pointer (some ⟨b, 16, none⟩))) => ?_
  have F83 := F82.pt u83
  have h0_83 := u83.v 0 h0_82 (by decide)
  have h1_83 := u83.v 1 h1_82 (by decide)
  have h4_83 := u83.v 4 h4_82 (by decide)
  have h85_83 := u83.v 85 h85_82 (by decide)
  clear h0_82 h1_82 h4_82 h85_82 h86_82 u83 F82
  refine wl_p (ex_ld (v := (.int .u64 t)) (ad := ⟨b, 16, none⟩) (fun _ => by kernel_rfl) h87_83 (Bb_8.cell 16)) (by rw [F83.size]; decide) fun a84 u84 (h88_84 : a84.tmps.getD 88 undef = (.int .u64 t)) => ?_
  have F84 := F83.pt u84
  have h0_84 := u84.v 0 h0_83 (by decide)
  have h1_84 := u84.v 1 h1_83 (by decide)
  have h4_84 := u84.v 4 h4_83 (by decide)
  have h85_84 := u84.v 85 h85_83 (by decide)
  clear h0_83 h1_83 h4_83 h85_83 h87_83 u84 F83
  refine wl_p (ex_bin (vx := (.int .u64 t)) (vy := (.int .u64 1)) (v := (.int .u64 (t + 1))) h88_84 rfl (bo_addu _ _ _ (by omega) (by omega))) (by rw [F84.size]; decide) fun a85 u85 (h89_85 : a85.tmps.getD 89 undef = (.int .u64 (t + 1))) => ?_
  have F85 := F84.pt u85
  have h0_85 := u85.v 0 h0_84 (by decide)
  have h1_85 := u85.v 1 h1_84 (by decide)
  have h4_85 := u85.v 4 h4_84 (by decide)
  have h85_85 := u85.v 85 h85_84 (by decide)
  clear h0_84 h1_84 h4_84 h85_84 h88_84 u85 F84
  refine wl_p (ex_nil (ad := ⟨b, 0, none⟩) h85_85) (by rw [F85.size]; decide) fun a86 u86 (h90_86 : a86.tmps.getD 90 undef = (.pointer (some ⟨b, 0, none⟩))) => ?_
  have F86 := F85.pt u86
  have h0_86 := u86.v 0 h0_85 (by decide)
  have h1_86 := u86.v 1 h1_85 (by decide)
  have h4_86 := u86.v 4 h4_85 (by decide)
  have h89_86 := u86.v 89 h89_85 (by decide)
  clear h0_85 h1_85 h4_85 h85_85 h89_85 u86 F85
  refine wl_p (ex_fa (T := 70) (f := 16) (k := 16) (b := b) (fun _ _ => by kernel_rfl) h90_86) (by rw [F86.size]; decide) fun a87 u87 (h91_87 : a87.tmps.getD 91 undef = (.pointer (some ⟨b, 16, none⟩))) => ?_
  have F87 := F86.pt u87
  have h0_87 := u87.v 0 h0_86 (by decide)
  have h1_87 := u87.v 1 h1_86 (by decide)
  have h4_87 := u87.v 4 h4_86 (by decide)
  have h89_87 := u87.v 89 h89_86 (by decide)
  clear h0_86 h1_86 h4_86 h89_86 h90_86 u87 F86
  obtain ⟨w9, hr9, Bb_9, G9⟩ := st_run (T := 50) (o := 16) (v := (.int .u64 (t + 1))) (cs' := #[(.float .f64 x), (.int .u64 seq), (.slice (some ⟨g, 0, none⟩) cap cap), c3, c4, c5, c6, c7, c8, c9, c10, c11, c12, (.int .u64 cap), (.int .u64 0), (.int .u64 ((t + 1) % cap)), (.int .u64 (t + 1)), (.slice none 0 0), (.int .i64 0), (.int .i8 0), c20, c21, c22]) (fun _ => by kernel_rfl) Bb_8 rfl (by simp) rfl
  have Bg_9 := Bg_8.gk G9 hgb
  have Bq_9 := Bq_8.gk G9 hqb
  have Bv_9 := Bv_8.gk G9 hvb
  have Kp9 := Kp8.set G9 (Or.inl (by simp))
  refine wl_n (ex_st h91_87 h89_87 hr9) ?_
  clear Bg_8 Bq_8 Bv_8 Kp8 Bb_8 hr9 G9
  change Code.wp _ _ _ _ _
  refine wp_seq ?_
  refine wp_seq ?_
  obtain ⟨w10, hw10⟩ : ∃ w, w = w9.drew := ⟨_, rfl⟩
  have G10 : w9.grownBy w10 none := hw10 ▸ grown_drew _
  have Bb_10 := Bb_9.gn G10
  have Bg_10 := Bg_9.gn G10
  have Bq_10 := Bq_9.gn G10
  have Bv_10 := Bv_9.gn G10
  have Kp10 := Kp9.new G10
  refine rg_still hw10 hmix (by kernel_rfl) ?_
  clear Bb_9 Bg_9 Bq_9 Bv_9 Kp9 hw10 G10
  refine st_p (ex_mv (v := (.pointer (some ⟨b, 0, none⟩))) h0_87) (by rw [F87.size]; decide) fun a88 u88 (h92_88 : a88.tmps.getD 92 undef = (.pointer (some ⟨b, 0, none⟩))) => ?_
  have F88 := F87.pt u88
  have h0_88 := u88.v 0 h0_87 (by decide)
  have h1_88 := u88.v 1 h1_87 (by decide)
  have h4_88 := u88.v 4 h4_87 (by decide)
  clear h0_87 h1_87 h4_87 h89_87 h91_87 u88 F87
  refine st_p (ex_nil (ad := ⟨b, 0, none⟩) h92_88) (by rw [F88.size]; decide) fun a89 u89 (h93_89 : a89.tmps.getD 93 undef = (.pointer (some ⟨b, 0, none⟩))) => ?_
  have F89 := F88.pt u89
  have h0_89 := u89.v 0 h0_88 (by decide)
  have h1_89 := u89.v 1 h1_88 (by decide)
  have h4_89 := u89.v 4 h4_88 (by decide)
  clear h0_88 h1_88 h4_88 h92_88 u89 F88
  refine st_p (ex_fa (T := 70) (f := 0) (k := 0) (b := b) (fun _ _ => by kernel_rfl) h93_89) (by rw [F89.size]; decide) fun a90 u90 (h94_90 : a90.tmps.getD 94 undef = (.pointer (some ⟨b, 0, none⟩))) => ?_
  have F90 := F89.pt u90
  have h0_90 := u90.v 0 h0_89 (by decide)
  have h1_90 := u90.v 1 h1_89 (by decide)
  have h4_90 := u90.v 4 h4_89 (by decide)
  clear h0_89 h1_89 h4_89 h93_89 u90 F89
  refine st_p (ex_ld (v := (.float .f64 x)) (ad := ⟨b, 0, none⟩) (fun _ => by kernel_rfl) h94_90 (Bb_10.cell 0)) (by rw [F90.size]; decide) fun a91 u91 (h95_91 : a91.tmps.getD 95 undef = (.float .f64 x)) => ?_
  have F91 := F90.pt u91
  have h0_91 := u91.v 0 h0_90 (by decide)
  have h1_91 := u91.v 1 h1_90 (by decide)
  have h4_91 := u91.v 4 h4_90 (by decide)
  clear h0_90 h1_90 h4_90 h94_90 u91 F90
  refine st_p (ex_mv (v := (.pointer (some ⟨q, 0, none⟩))) h1_91) (by rw [F91.size]; decide) fun a92 u92 (h96_92 : a92.tmps.getD 96 undef = (.pointer (some ⟨q, 0, none⟩))) => ?_
  have F92 := F91.pt u92
  have h0_92 := u92.v 0 h0_91 (by decide)
  have h1_92 := u92.v 1 h1_91 (by decide)
  have h4_92 := u92.v 4 h4_91 (by decide)
  have h95_92 := u92.v 95 h95_91 (by decide)
  clear h0_91 h1_91 h4_91 h95_91 u92 F91
  refine st_p (ex_nil (ad := ⟨q, 0, none⟩) h96_92) (by rw [F92.size]; decide) fun a93 u93 (h97_93 : a93.tmps.getD 97 undef = (.pointer (some ⟨q, 0, none⟩))) => ?_
  have F93 := F92.pt u93
  have h0_93 := u93.v 0 h0_92 (by decide)
  have h1_93 := u93.v 1 h1_92 (by decide)
  have h4_93 := u93.v 4 h4_92 (by decide)
  have h95_93 := u93.v 95 h95_92 (by decide)
  clear h0_92 h1_92 h4_92 h95_92 h96_92 u93 F92
  refine st_p (ex_fa (T := 96) (f := 3) (k := 3) (b := q) (fun _ _ => by kernel_rfl) h97_93) (by rw [F93.size]; decide) fun a94 u94 (h98_94 : a94.tmps.getD 98 undef = (.pointer (some ⟨q, 3, none⟩))) => ?_
  have F94 := F93.pt u94
  have h0_94 := u94.v 0 h0_93 (by decide)
  have h1_94 := u94.v 1 h1_93 (by decide)
  have h4_94 := u94.v 4 h4_93 (by decide)
  have h95_94 := u94.v 95 h95_93 (by decide)
  clear h0_93 h1_93 h4_93 h95_93 h97_93 u94 F93
  refine st_p (ex_ld (v := (.float .f64 y)) (ad := ⟨q, 3, none⟩) (fun _ => by kernel_rfl) h98_94 (Bq_10.cell 3)) (by rw [F94.size]; decide) fun a95 u95 (h99_95 : a95.tmps.getD 99 undef = (.float .f64 y)) => ?_
  have F95 := F94.pt u95
  have h0_95 := u95.v 0 h0_94 (by decide)
  have h1_95 := u95.v 1 h1_94 (by decide)
  have h4_95 := u95.v 4 h4_94 (by decide)
  have h95_95 := u95.v 95 h95_94 (by decide)
  clear h0_94 h1_94 h4_94 h95_94 h98_94 u95 F94
  refine st_p (ex_bin (vx := (.float .f64 x)) (vy := (.float .f64 y)) (v := (.bool true)) h95_95 h99_95 ((bo_lssf _ _ _).trans (by rw [hord]))) (by rw [F95.size]; decide) fun a96 u96 (h100_96 : a96.tmps.getD 100 undef = (.bool true)) => ?_
  have F96 := F95.pt u96
  have h0_96 := u96.v 0 h0_95 (by decide)
  have h1_96 := u96.v 1 h1_95 (by decide)
  have h4_96 := u96.v 4 h4_95 (by decide)
  clear h0_95 h1_95 h4_95 h95_95 h99_95 u96 F95
  change Code.wp _ _ _ _ _
  refine wp_cond_true h100_96 ?_
  refine rg_list ?_
  refine wl_p (ex_mv (v := (.pointer (some ⟨b, 0, none⟩))) h0_96) (by rw [F96.size]; decide) fun a97 u97 (h101_97 : a97.tmps.getD 101 undef = (.pointer (some ⟨b, 0, none⟩))) => ?_
  have F97 := F96.pt u97
  have h0_97 := u97.v 0 h0_96 (by decide)
  have h1_97 := u97.v 1 h1_96 (by decide)
  have h4_97 := u97.v 4 h4_96 (by decide)
  clear h0_96 h1_96 h4_96 h100_96 u97 F96
  refine wl_p (ex_mv (v := (.pointer (some ⟨q, 0, none⟩))) h1_97) (by rw [F97.size]; decide) fun a98 u98 (h102_98 : a98.tmps.getD 102 undef = (.pointer (some ⟨q, 0, none⟩))) => ?_
  have F98 := F97.pt u98
  have h0_98 := u98.v 0 h0_97 (by decide)
  have h4_98 := u98.v 4 h4_97 (by decide)
  have h101_98 := u98.v 101 h101_97 (by decide)
  clear h0_97 h1_97 h4_97 h101_97 u98 F97
  refine wl_p (ex_nil (ad := ⟨q, 0, none⟩) h102_98) (by rw [F98.size]; decide) fun a99 u99 (h103_99 : a99.tmps.getD 103 undef = (.pointer (some ⟨q, 0, none⟩))) => ?_
  have F99 := F98.pt u99
  have h0_99 := u99.v 0 h0_98 (by decide)
  have h4_99 := u99.v 4 h4_98 (by decide)
  have h101_99 := u99.v 101 h101_98 (by decide)
  clear h0_98 h4_98 h101_98 h102_98 u99 F98
  refine wl_p (ex_fa (T := 96) (f := 3) (k := 3) (b := q) (fun _ _ => by kernel_rfl) h103_99) (by rw [F99.size]; decide) fun a100 u100 (h104_100 : a100.tmps.getD 104 undef = (.pointer (some ⟨q, 3, none⟩))) => ?_
  have F100 := F99.pt u100
  have h0_100 := u100.v 0 h0_99 (by decide)
  have h4_100 := u100.v 4 h4_99 (by decide)
  have h101_100 := u100.v 101 h101_99 (by decide)
  clear h0_99 h4_99 h101_99 h103_99 u100 F99
  refine wl_p (ex_ld (v := (.float .f64 y)) (ad := ⟨q, 3, none⟩) (fun _ => by kernel_rfl) h104_100 (Bq_10.cell 3)) (by rw [F100.size]; decide) fun a101 u101 (h105_101 : a101.tmps.getD 105 undef = (.float .f64 y)) => ?_
  have F101 := F100.pt u101
  have h0_101 := u101.v 0 h0_100 (by decide)
  have h4_101 := u101.v 4 h4_100 (by decide)
  have h101_101 := u101.v 101 h101_100 (by decide)
  clear h0_100 h4_100 h101_100 h104_100 u101 F100
  refine wl_cl (args := #[(.float .f64 y)]) (R := fun v w' => v = (.float .f64 (fceil y)) ∧ (w10 = w')) (ex_cl (fun _ _ => by kernel_rfl) (arg1 h105_101)) ((ceil_any y hn _).mono fun _ _ h => ⟨_, h.1, rfl, h.2⟩) (by rw [F101.size]; decide) ?_
  rintro v w' ⟨rfl, rfl⟩
  intro a102 u102 h106_102
  have F102 := F101.pt u102
  have h0_102 := u102.v 0 h0_101 (by decide)
  have h4_102 := u102.v 4 h4_101 (by decide)
  have h101_102 := u102.v 101 h101_101 (by decide)
  clear h0_101 h4_101 h101_101 h105_101 u102 F101
  refine wl_p (ex_nil (ad := ⟨b, 0, none⟩) h101_102) (by rw [F102.size]; decide) fun a103 u103 (h107_103 : a103.tmps.getD 107 undef = (.pointer (some ⟨b, 0, none⟩))) => ?_
  have F103 := F102.pt u103
  have h0_103 := u103.v 0 h0_102 (by decide)
  have h4_103 := u103.v 4 h4_102 (by decide)
  have h106_103 := u103.v 106 h106_102 (by decide)
  clear h0_102 h4_102 h101_102 h106_102 u103 F102
  refine wl_p (ex_fa (T := 70) (f := 0) (k := 0) (b := b) (fun _ _ => by kernel_rfl) h107_103) (by rw [F103.size]; decide) fun a104 u104 (h108_104 : a104.tmps.getD 108 undef = (.pointer (some ⟨b, 0, none⟩))) => ?_
  have F104 := F103.pt u104
  have h0_104 := u104.v 0 h0_103 (by decide)
  have h4_104 := u104.v 4 h4_103 (by decide)
  have h106_104 := u104.v 106 h106_103 (by decide)
  clear h0_103 h4_103 h106_103 h107_103 u104 F103
  obtain ⟨w11, hr11, Bb_11, G11⟩ := st_run (T := 24) (o := 0) (v := (.float .f64 (fceil y))) (cs' := #[(.float .f64 (fceil y)), (.int .u64 seq), (.slice (some ⟨g, 0, none⟩) cap cap), c3, c4, c5, c6, c7, c8, c9, c10, c11, c12, (.int .u64 cap), (.int .u64 0), (.int .u64 ((t + 1) % cap)), (.int .u64 (t + 1)), (.slice none 0 0), (.int .i64 0), (.int .i8 0), c20, c21, c22]) (fun _ => by kernel_rfl) Bb_10 rfl (by simp) rfl
  have Bg_11 := Bg_10.gk G11 hgb
  have Bq_11 := Bq_10.gk G11 hqb
  have Bv_11 := Bv_10.gk G11 hvb
  have Kp11 := Kp10.set G11 (Or.inl (by simp))
  refine wl_n (ex_st h108_104 h106_104 hr11) ?_
  clear Bg_10 Bq_10 Bv_10 Kp10 Bb_10 hr11 G11
  change Code.wp _ _ _ _ _
  refine wp_seq ?_
  refine rg_list ?_
  refine wl_p (ex_mv (v := (.pointer (some ⟨b, 0, none⟩))) h0_104) (by rw [F104.size]; decide) fun a105 u105 (h109_105 : a105.tmps.getD 109 undef = (.pointer (some ⟨b, 0, none⟩))) => ?_
  have F105 := F104.pt u105
  have h4_105 := u105.v 4 h4_104 (by decide)
  clear h0_104 h4_104 h106_104 h108_104 u105 F104
  refine wl_p (ex_nil (ad := ⟨b, 0, none⟩) h109_105) (by rw [F105.size]; decide) fun a106 u106 (h110_106 : a106.tmps.getD 110 undef = (.pointer (some ⟨b, 0, none⟩))) => ?_
  have F106 := F105.pt u106
  have h4_106 := u106.v 4 h4_105 (by decide)
  clear h4_105 h109_105 u106 F105
  refine wl_p (ex_fa (T := 70) (f := 17) (k := 17) (b := b) (fun _ _ => by kernel_rfl) h110_106) (by rw [F106.size]; decide) fun a107 u107 (h111_107 : a107.tmps.getD 111 undef = (.pointer (some ⟨b, 17, none⟩))) => ?_
  have F107 := F106.pt u107
  have h4_107 := u107.v 4 h4_106 (by decide)
  clear h4_106 h110_106 u107 F106
  refine wl_cl (args := #[(.pointer (some ⟨b, 17, none⟩))]) (R := fun v w' => v = (.tuple #[]) ∧ (Blk w' b 70 #[(.float .f64 (fceil y)), (.int .u64 seq), (.slice (some ⟨g, 0, none⟩) cap cap), c3, c4, c5, c6, c7, c8, c9, c10, c11, c12, (.int .u64 cap), (.int .u64 0), (.int .u64 ((t + 1) % cap)), (.int .u64 (t + 1)), (.slice none 0 0), (.int .i64 0), (.int .i8 0), c20, c21, c22] ∧ w11.grownBy w' (some b))) (ex_cl (fun _ _ => by kernel_rfl) (arg1 h111_107)) ((reset17 Bb_11).mono fun _ _ h => ⟨_, h.1, rfl, h.2⟩) (by rw [F107.size]; decide) ?_
  rintro v w12 ⟨rfl, Bb_12, G12⟩
  have Bg_12 := Bg_11.gk G12 hgb
  have Bq_12 := Bq_11.gk G12 hqb
  have Bv_12 := Bv_11.gk G12 hvb
  have Kp12 := Kp11.set G12 (Or.inl (by simp))
  intro a108 u108 h112_108
  have F108 := F107.pt u108
  have h4_108 := u108.v 4 h4_107 (by decide)
  clear h4_107 h111_107 u108 F107
  clear Bg_11 Bq_11 Bv_11 Kp11 Bb_11
  change Code.wp _ _ _ _ _
  refine wp_seq ?_
  refine rg_list ?_
  refine wl_p (ex_as (v := .nilIface) rfl) (by rw [F108.size]; decide) fun a109 u109 (h4_109 : a109.tmps.getD 4 undef = .nilIface) => ?_
  have F109 := F108.pt u109
  clear h4_108 h112_108 u109 F108
  change Code.wp _ _ _ _ _
  refine wp_ret ?_
  try simp only [Exit.then, Exit.inBlock]
  exact bodyPost_ret (v := .nilIface) ((results_tmp rfl _ _ _).trans (by rw [h4_109])) F109.defers ⟨rfl, Bb_12, Bg_12, Bq_12, Kp12⟩
end Go.Proofs.YtlphcidpaidclaaGreatDoor
