/-
  AppendSegment.
-/
import Derived.Test.YtlphcidpaidclaaGreatDoorNew
namespace Go.Proofs.YtlphcidpaidclaaGreatDoor
open Go.RowKit
set_option maxRecDepth 100000
section
variable {x y : Operand}
theorem bo_lssf (m n : Nat) (w : World) : (do eqGuard .lss 24 x y (.float .f64 m) (.float .f64 n); binOp .lss 24 (.float .f64 m) (.float .f64 n) : Sem Value).run Tryz.prog w = .ok (.bool (FloatKind.f64.format.order m n == some .lt)) w := by
  simp [go_sem]
theorem bo_add64 (m n : Int) (w : World) (h0 : 0 ≤ m + n) (h1 : m + n < 18446744073709551616) : (do eqGuard .add 25 x y (.int .u64 m) (.int .u64 n); binOp .add 25 (.int .u64 m) (.int .u64 n) : Sem Value).run Tryz.prog w = .ok (.int .u64 (m + n)) w := by
  simp [go_sem]
  rw [IntKind.wrap_u64]; omega
end

theorem app_first {b g q cap seq x y : Nat} {arr : Array Value} {c3 c4 c5 c6 c7 c8 c9 c10 c11 c12 c20 c21 c22 s0 s1 s2 s4 s5 s6 s7 s8 s9 s10 : Value} {w0 : World} (hb : Blk w0 b 70 #[(.float .f64 x), (.int .u64 seq), (.slice (some ⟨g, 0, none⟩) cap cap), c3, c4, c5, c6, c7, c8, c9, c10, c11, c12, (.int .u64 cap), (.int .u64 0), (.int .u64 0), (.int .u64 0), (.slice none 0 0), (.int .i64 0), (.int .i8 0), c20, c21, c22]) (hg : Blk w0 g 74 arr) (hq : Blk w0 q 96 #[s0, s1, s2, (.float .f64 y), s4, s5, s6, s7, s8, s9, s10]) (hgb : g ≠ b) (hqb : q ≠ b) (hgq : g ≠ q) (hc0 : 0 < cap) (hc1 : cap ≤ 1024) (hin : 0 < arr.size) (hord : (FloatKind.f64.format.order x y == some .lt) = false) :
    Calls Tryz.prog 15 #[pt b, pt q] w0 fun e w' => e = .returned .nilIface ∧ Blk w' b 70 #[(.float .f64 x), (.int .u64 seq), (.slice (some ⟨g, 0, none⟩) cap cap), c3, c4, c5, c6, c7, c8, c9, c10, c11, c12, (.int .u64 cap), (.int .u64 0), (.int .u64 (((0 : Int) + 1) % cap)), (.int .u64 (0 + 1)), (.slice none 0 0), (.int .i64 0), (.int .i8 0), c20, c21, c22] ∧ Blk w' g 74 (arr.setIfInBounds 0 (.pointer (some ⟨q, 0, none⟩))) ∧ Blk w' q 96 #[(.int .u64 seq), s1, s2, (.float .f64 y), s4, s5, s6, s7, s8, s9, s10] ∧ Kp [b, g, q] w0 w' := by
  refine calls_of_wp Tryz.func15 rfl ?_
  generalize hA : Act.mk _ _ = a0
  have F0 : Fz 113 a0 := by subst hA; exact ⟨by simp [Tryz.ntmps15], rfl⟩
  have h0_0 : a0.tmps.getD 0 undef = (.pointer (some ⟨b, 0, none⟩)) := by subst hA; exact fr_arg rfl
  have h1_0 : a0.tmps.getD 1 undef = (.pointer (some ⟨q, 0, none⟩)) := by subst hA; exact fr_arg rfl
  clear hA
  have Kp0 := Kp.refl [b, g, q] w0
  refine wp_seq ?_
  refine rg_list ?_
  refine wl_p (ex_as (v := .nilIface) rfl) F0.l fun a1 u1 h4_1 => ?_
  have F1 := F0.pt u1
  change Code.wp _ _ _ _ _
  refine wp_seq ?_
  refine wp_seq ?_
  obtain ⟨w1, hw1⟩ : ∃ w, w = w0.drew := ⟨_, rfl⟩
  have G1 : w0.grownBy w1 none := hw1 ▸ grown_drew _
  have Bb_1 := hb.gn G1
  have Bg_1 := hg.gn G1
  have Bq_1 := hq.gn G1
  have Kp1 := Kp0.new G1
  refine rg_still hw1 hmix (by kernel_rfl) ?_
  clear hb hg hq
  refine st_p (ex_mv (u1.w h0_0)) F1.l fun a2 u2 h5_2 => ?_
  have F2 := F1.pt u2
  refine st_p (ex_nil h5_2) F2.l fun a3 u3 h6_3 => ?_
  have F3 := F2.pt u3
  refine st_p (ex_fb 14 h6_3) F3.l fun a4 u4 h7_4 => ?_
  have F4 := F3.pt u4
  refine st_p (ex_le (v := (.int .u64 0)) h7_4 (Bb_1.cell 14)) F4.l fun a5 u5 h8_5 => ?_
  have F5 := F4.pt u5
  have h0_5 := u5.w (u4.w (u3.w (u2.w (u1.w h0_0))))
  refine st_p (ex_mv h0_5) F5.l fun a6 u6 h9_6 => ?_
  have F6 := F5.pt u6
  refine st_p (ex_nil h9_6) F6.l fun a7 u7 h10_7 => ?_
  have F7 := F6.pt u7
  refine st_p (ex_fb 15 h10_7) F7.l fun a8 u8 h11_8 => ?_
  have F8 := F7.pt u8
  refine st_p (ex_le (v := (.int .u64 0)) h11_8 (Bb_1.cell 15)) F8.l fun a9 u9 h12_9 => ?_
  have F9 := F8.pt u9
  have h8_9 := u9.w (u8.w (u7.w (u6.w h8_5)))
  refine st_p (ex_bin (v := (.bool true)) h8_9 h12_9 ((bo_eqlu _ _ _).trans (by rfl))) F9.l fun a10 u10 h13_10 => ?_
  have F10 := F9.pt u10
  refine st_p (ex_mv h13_10) F10.l fun a11 u11 h14_11 => ?_
  have F11 := F10.pt u11
  have h0_11 := u11.w (u10.w (u9.w (u8.w (u7.w (u6.w h0_5)))))
  refine st_g (yl (e := 14) rfl h14_11) (ex_mv h0_11) F11.l fun a12 u12 h15_12 => ?_
  have F12 := F11.pt u12
  refine st_g (yl (e := 14) rfl (u12.w h14_11)) (ex_nil h15_12) F12.l fun a13 u13 h16_13 => ?_
  have F13 := F12.pt u13
  refine st_g (yl (e := 14) rfl (u13.w (u12.w h14_11))) (ex_fb 16 h16_13) F13.l fun a14 u14 h17_14 => ?_
  have F14 := F13.pt u14
  have h14_14 := u14.w (u13.w (u12.w h14_11))
  refine st_g (yl (e := 14) rfl h14_14) (ex_le (v := (.int .u64 0)) h17_14 (Bb_1.cell 16)) F14.l fun a15 u15 h18_15 => ?_
  have F15 := F14.pt u15
  refine st_g (yl (e := 14) rfl (u15.w h14_14)) (ex_bin (vy := (.int .u64 0)) (v := (.bool false)) h18_15 rfl ((bo_gtru _ _ _).trans (by rfl))) F15.l fun a16 u16 h19_16 => ?_
  have F16 := F15.pt u16
  refine st_p (ex_pick (q := true) (u16.w (u15.w h14_14)) h19_16) F16.l fun a17 u17 h20_17 => ?_
  have F17 := F16.pt u17
  change Code.wp _ _ _ _ _
  refine wp_cond_false h20_17 ?_
  refine wp_skip ?_
  change Code.wp _ _ _ _ _
  refine wp_seq ?_
  refine rg_list ?_
  have h1_17 := u17.w (u16.w (u15.w (u14.w (u13.w (u12.w (u11.w (u10.w (u9.w (u8.w (u7.w (u6.w (u5.w (u4.w (u3.w (u2.w (u1.w h1_0))))))))))))))))
  refine wl_p (ex_mv h1_17) F17.l fun a18 u18 h22_18 => ?_
  have F18 := F17.pt u18
  have h0_18 := u18.w (u17.w (u16.w (u15.w (u14.w (u13.w (u12.w h0_11))))))
  refine wl_p (ex_mv h0_18) F18.l fun a19 u19 h23_19 => ?_
  have F19 := F18.pt u19
  refine wl_p (ex_nil h23_19) F19.l fun a20 u20 h24_20 => ?_
  have F20 := F19.pt u20
  refine wl_p (ex_fb 1 h24_20) F20.l fun a21 u21 h25_21 => ?_
  have F21 := F20.pt u21
  refine wl_p (ex_le (v := (.int .u64 seq)) h25_21 (Bb_1.cell 1)) F21.l fun a22 u22 h26_22 => ?_
  have F22 := F21.pt u22
  have h22_22 := u22.w (u21.w (u20.w (u19.w h22_18)))
  refine wl_p (ex_nil h22_22) F22.l fun a23 u23 h27_23 => ?_
  have F23 := F22.pt u23
  refine wl_p (ex_fb 0 h27_23) F23.l fun a24 u24 h28_24 => ?_
  have F24 := F23.pt u24
  obtain ⟨w2, hr2, Bq_2, G2⟩ := st_run (T := 25) (o := 0) (v := (.int .u64 seq)) (cs' := #[(.int .u64 seq), s1, s2, (.float .f64 y), s4, s5, s6, s7, s8, s9, s10]) (fun _ => by kernel_rfl) Bq_1 rfl (by simp) rfl
  have Bb_2 := Bb_1.gk G2 (Ne.symm hqb)
  have Bg_2 := Bg_1.gk G2 hgq
  have Kp2 := Kp1.set G2 (Or.inl (by simp))
  refine wl_n (ex_st h28_24 (u24.w (u23.w h26_22)) hr2) ?_
  change Code.wp _ _ _ _ _
  refine wp_seq ?_
  refine wp_seq ?_
  refine rg_list ?_
  have h0_24 := u24.w (u23.w (u22.w (u21.w (u20.w (u19.w h0_18)))))
  refine wl_p (ex_mv h0_24) F24.l fun a25 u25 h29_25 => ?_
  have F25 := F24.pt u25
  refine wl_p (ex_nil h29_25) F25.l fun a26 u26 h30_26 => ?_
  have F26 := F25.pt u26
  refine wl_p (ex_fb 16 h30_26) F26.l fun a27 u27 h31_27 => ?_
  have F27 := F26.pt u27
  refine wl_p (ex_le (v := (.int .u64 0)) h31_27 (Bb_2.cell 16)) F27.l fun a28 u28 h32_28 => ?_
  have F28 := F27.pt u28
  refine wl_p (ex_bin (vy := (.int .u64 0)) (v := (.bool false)) h32_28 rfl ((bo_gtru _ _ _).trans (by rfl))) F28.l fun a29 u29 h33_29 => ?_
  have F29 := F28.pt u29
  change Code.wp _ _ _ _ _
  refine wp_cond_false h33_29 ?_
  refine wp_skip ?_
  change Code.wp _ _ _ _ _
  refine wp_seq ?_
  obtain ⟨w3, hw3⟩ : ∃ w, w = w2.drew := ⟨_, rfl⟩
  have G3 : w2.grownBy w3 none := hw3 ▸ grown_drew _
  have Bb_3 := Bb_2.gn G3
  have Bg_3 := Bg_2.gn G3
  have Bq_3 := Bq_2.gn G3
  have Kp3 := Kp2.new G3
  refine rg_stillt 10 hw3 hmix (by kernel_rfl) ?_
  have h0_29 := u29.w (u28.w (u27.w (u26.w (u25.w h0_24))))
  refine st_p (ex_mv h0_29) F29.l fun a30 u30 h62_30 => ?_
  have F30 := F29.pt u30
  refine st_p (ex_nil h62_30) F30.l fun a31 u31 h63_31 => ?_
  have F31 := F30.pt u31
  refine st_p (ex_fb 2 h63_31) F31.l fun a32 u32 h64_32 => ?_
  have F32 := F31.pt u32
  refine st_p (ex_le (v := (.slice (some ⟨g, 0, none⟩) cap cap)) h64_32 (Bb_3.cell 2)) F32.l fun a33 u33 h65_33 => ?_
  have F33 := F32.pt u33
  have h0_33 := u33.w (u32.w (u31.w (u30.w h0_29)))
  refine st_p (ex_mv h0_33) F33.l fun a34 u34 h66_34 => ?_
  have F34 := F33.pt u34
  refine st_p (ex_nil h66_34) F34.l fun a35 u35 h67_35 => ?_
  have F35 := F34.pt u35
  refine st_p (ex_fb 15 h67_35) F35.l fun a36 u36 h68_36 => ?_
  have F36 := F35.pt u36
  refine st_p (ex_le (v := (.int .u64 0)) h68_36 (Bb_3.cell 15)) F36.l fun a37 u37 h69_37 => ?_
  have F37 := F36.pt u37
  have h1_37 := u37.w (u36.w (u35.w (u34.w (u33.w (u32.w (u31.w (u30.w (u29.w (u28.w (u27.w (u26.w (u25.w (u24.w (u23.w (u22.w (u21.w (u20.w (u19.w (u18.w h1_17)))))))))))))))))))
  refine st_p (ex_mv h1_37) F37.l fun a38 u38 h70_38 => ?_
  have F38 := F37.pt u38
  have h65_38 := u38.w (u37.w (u36.w (u35.w (u34.w h65_33))))
  refine st_p (ex_ixg (vx := (.slice (some ⟨g, 0, none⟩) cap cap)) (vy := (.int .u64 0)) (v := (.pointer (some ⟨g, 0, none⟩))) h65_38 (u38.w h69_37) (ix_run g cap 0 (by omega) _)) F38.l fun a39 u39 h71_39 => ?_
  have F39 := F38.pt u39
  obtain ⟨w4, hr4, Bg_4, G4⟩ := st_run (T := 74) (o := 0) (v := (.pointer (some ⟨q, 0, none⟩))) (cs' := (arr.setIfInBounds 0 (.pointer (some ⟨q, 0, none⟩)))) (fun _ => by kernel_rfl) Bg_3 rfl (hin) rfl
  have Bb_4 := Bb_3.gk G4 (Ne.symm hgb)
  have Bq_4 := Bq_3.gk G4 (Ne.symm hgq)
  have Kp4 := Kp3.set G4 (Or.inl (by simp))
  refine wl_n (ex_st h71_39 (u39.w h70_38) hr4) ?_
  change Code.wp _ _ _ _ _
  refine wp_seq ?_
  obtain ⟨w5, hw5⟩ : ∃ w, w = w4.drew := ⟨_, rfl⟩
  have G5 : w4.grownBy w5 none := hw5 ▸ grown_drew _
  have Bb_5 := Bb_4.gn G5
  have Bg_5 := Bg_4.gn G5
  have Bq_5 := Bq_4.gn G5
  have Kp5 := Kp4.new G5
  refine rg_stillt 13 hw5 hmix (by kernel_rfl) ?_
  have h0_39 := u39.w (u38.w (u37.w (u36.w (u35.w (u34.w h0_33)))))
  refine st_p (ex_mv h0_39) F39.l fun a40 u40 h72_40 => ?_
  have F40 := F39.pt u40
  refine st_p (ex_mv (u40.w h0_39)) F40.l fun a41 u41 h73_41 => ?_
  have F41 := F40.pt u41
  refine st_p (ex_nil h73_41) F41.l fun a42 u42 h74_42 => ?_
  have F42 := F41.pt u42
  refine st_p (ex_fb 15 h74_42) F42.l fun a43 u43 h75_43 => ?_
  have F43 := F42.pt u43
  refine st_p (ex_le (v := (.int .u64 0)) h75_43 (Bb_5.cell 15)) F43.l fun a44 u44 h76_44 => ?_
  have F44 := F43.pt u44
  refine st_p (ex_bin (vy := (.int .u64 1)) (v := (.int .u64 (0 + 1))) h76_44 rfl (bo_addu _ _ _ (by omega) (by omega))) F44.l fun a45 u45 h77_45 => ?_
  have F45 := F44.pt u45
  have h0_45 := u45.w (u44.w (u43.w (u42.w (u41.w (u40.w h0_39)))))
  refine st_p (ex_mv h0_45) F45.l fun a46 u46 h78_46 => ?_
  have F46 := F45.pt u46
  refine st_p (ex_nil h78_46) F46.l fun a47 u47 h79_47 => ?_
  have F47 := F46.pt u47
  refine st_p (ex_fb 13 h79_47) F47.l fun a48 u48 h80_48 => ?_
  have F48 := F47.pt u48
  refine st_p (ex_le (v := (.int .u64 cap)) h80_48 (Bb_5.cell 13)) F48.l fun a49 u49 h81_49 => ?_
  have F49 := F48.pt u49
  have h77_49 := u49.w (u48.w (u47.w (u46.w h77_45)))
  refine st_p (ex_bin (v := (.int .u64 (((0 : Int) + 1) % cap))) h77_49 h81_49 (bo_remu _ _ _ (by omega) (by omega) (by omega))) F49.l fun a50 u50 h82_50 => ?_
  have F50 := F49.pt u50
  have h72_50 := u50.w (u49.w (u48.w (u47.w (u46.w (u45.w (u44.w (u43.w (u42.w (u41.w h72_40)))))))))
  refine st_p (ex_nil h72_50) F50.l fun a51 u51 h83_51 => ?_
  have F51 := F50.pt u51
  refine st_p (ex_fb 15 h83_51) F51.l fun a52 u52 h84_52 => ?_
  have F52 := F51.pt u52
  obtain ⟨w6, hr6, Bb_6, G6⟩ := st_run (T := 50) (o := 15) (v := (.int .u64 (((0 : Int) + 1) % cap))) (cs' := #[(.float .f64 x), (.int .u64 seq), (.slice (some ⟨g, 0, none⟩) cap cap), c3, c4, c5, c6, c7, c8, c9, c10, c11, c12, (.int .u64 cap), (.int .u64 0), (.int .u64 (((0 : Int) + 1) % cap)), (.int .u64 0), (.slice none 0 0), (.int .i64 0), (.int .i8 0), c20, c21, c22]) (fun _ => by kernel_rfl) Bb_5 rfl (by simp) rfl
  have Bg_6 := Bg_5.gk G6 hgb
  have Bq_6 := Bq_5.gk G6 hqb
  have Kp6 := Kp5.set G6 (Or.inl (by simp))
  refine wl_n (ex_st h84_52 (u52.w (u51.w h82_50)) hr6) ?_
  change Code.wp _ _ _ _ _
  refine wp_seq ?_
  refine rg_list ?_
  have h0_52 := u52.w (u51.w (u50.w (u49.w (u48.w (u47.w (u46.w h0_45))))))
  refine wl_p (ex_mv h0_52) F52.l fun a53 u53 h85_53 => ?_
  have F53 := F52.pt u53
  refine wl_p (ex_nil h85_53) F53.l fun a54 u54 h86_54 => ?_
  have F54 := F53.pt u54
  refine wl_p (ex_fb 16 h86_54) F54.l fun a55 u55 h87_55 => ?_
  have F55 := F54.pt u55
  refine wl_p (ex_le (v := (.int .u64 0)) h87_55 (Bb_6.cell 16)) F55.l fun a56 u56 h88_56 => ?_
  have F56 := F55.pt u56
  refine wl_p (ex_bin (vy := (.int .u64 1)) (v := (.int .u64 (0 + 1))) h88_56 rfl (bo_addu _ _ _ (by omega) (by omega))) F56.l fun a57 u57 h89_57 => ?_
  have F57 := F56.pt u57
  have h85_57 := u57.w (u56.w (u55.w (u54.w h85_53)))
  refine wl_p (ex_nil h85_57) F57.l fun a58 u58 h90_58 => ?_
  have F58 := F57.pt u58
  refine wl_p (ex_fb 16 h90_58) F58.l fun a59 u59 h91_59 => ?_
  have F59 := F58.pt u59
  obtain ⟨w7, hr7, Bb_7, G7⟩ := st_run (T := 50) (o := 16) (v := (.int .u64 (0 + 1))) (cs' := #[(.float .f64 x), (.int .u64 seq), (.slice (some ⟨g, 0, none⟩) cap cap), c3, c4, c5, c6, c7, c8, c9, c10, c11, c12, (.int .u64 cap), (.int .u64 0), (.int .u64 (((0 : Int) + 1) % cap)), (.int .u64 (0 + 1)), (.slice none 0 0), (.int .i64 0), (.int .i8 0), c20, c21, c22]) (fun _ => by kernel_rfl) Bb_6 rfl (by simp) rfl
  have Bg_7 := Bg_6.gk G7 hgb
  have Bq_7 := Bq_6.gk G7 hqb
  have Kp7 := Kp6.set G7 (Or.inl (by simp))
  refine wl_n (ex_st h91_59 (u59.w (u58.w h89_57)) hr7) ?_
  change Code.wp _ _ _ _ _
  refine wp_seq ?_
  refine wp_seq ?_
  obtain ⟨w8, hw8⟩ : ∃ w, w = w7.drew := ⟨_, rfl⟩
  have G8 : w7.grownBy w8 none := hw8 ▸ grown_drew _
  have Bb_8 := Bb_7.gn G8
  have Bg_8 := Bg_7.gn G8
  have Bq_8 := Bq_7.gn G8
  have Kp8 := Kp7.new G8
  refine rg_still hw8 hmix (by kernel_rfl) ?_
  have h0_59 := u59.w (u58.w (u57.w (u56.w (u55.w (u54.w (u53.w h0_52))))))
  refine st_p (ex_mv h0_59) F59.l fun a60 u60 h92_60 => ?_
  have F60 := F59.pt u60
  refine st_p (ex_nil h92_60) F60.l fun a61 u61 h93_61 => ?_
  have F61 := F60.pt u61
  refine st_p (ex_fb 0 h93_61) F61.l fun a62 u62 h94_62 => ?_
  have F62 := F61.pt u62
  refine st_p (ex_le (v := (.float .f64 x)) h94_62 (Bb_8.cell 0)) F62.l fun a63 u63 h95_63 => ?_
  have F63 := F62.pt u63
  have h1_63 := u63.w (u62.w (u61.w (u60.w (u59.w (u58.w (u57.w (u56.w (u55.w (u54.w (u53.w (u52.w (u51.w (u50.w (u49.w (u48.w (u47.w (u46.w (u45.w (u44.w (u43.w (u42.w (u41.w (u40.w (u39.w (u38.w h1_37)))))))))))))))))))))))))
  refine st_p (ex_mv h1_63) F63.l fun a64 u64 h96_64 => ?_
  have F64 := F63.pt u64
  refine st_p (ex_nil h96_64) F64.l fun a65 u65 h97_65 => ?_
  have F65 := F64.pt u65
  refine st_p (ex_fb 3 h97_65) F65.l fun a66 u66 h98_66 => ?_
  have F66 := F65.pt u66
  refine st_p (ex_le (v := (.float .f64 y)) h98_66 (Bq_8.cell 3)) F66.l fun a67 u67 h99_67 => ?_
  have F67 := F66.pt u67
  have h95_67 := u67.w (u66.w (u65.w (u64.w h95_63)))
  refine st_p (ex_bin (v := (.bool false)) h95_67 h99_67 ((bo_lssf _ _ _).trans (by rw [hord]))) F67.l fun a68 u68 h100_68 => ?_
  have F68 := F67.pt u68
  change Code.wp _ _ _ _ _
  refine wp_cond_false h100_68 ?_
  refine wp_skip ?_
  change Code.wp _ _ _ _ _
  refine wp_seq ?_
  refine rg_list ?_
  have h0_68 := u68.w (u67.w (u66.w (u65.w (u64.w (u63.w (u62.w (u61.w (u60.w h0_59))))))))
  refine wl_p (ex_mv h0_68) F68.l fun a69 u69 h109_69 => ?_
  have F69 := F68.pt u69
  refine wl_p (ex_nil h109_69) F69.l fun a70 u70 h110_70 => ?_
  have F70 := F69.pt u70
  refine wl_p (ex_fb 17 h110_70) F70.l fun a71 u71 h111_71 => ?_
  have F71 := F70.pt u71
  refine wl_cl (args := #[(.pointer (some ⟨b, 17, none⟩))]) (R := fun v w' => v = (.tuple #[]) ∧ (Blk w' b 70 #[(.float .f64 x), (.int .u64 seq), (.slice (some ⟨g, 0, none⟩) cap cap), c3, c4, c5, c6, c7, c8, c9, c10, c11, c12, (.int .u64 cap), (.int .u64 0), (.int .u64 (((0 : Int) + 1) % cap)), (.int .u64 (0 + 1)), (.slice none 0 0), (.int .i64 0), (.int .i8 0), c20, c21, c22] ∧ w8.grownBy w' (some b))) (ex_cl (fun _ _ => by kernel_rfl) (arg1 h111_71)) ((reset17 Bb_8).mono fun _ _ h => ⟨_, h.1, rfl, h.2⟩) F71.l ?_
  rintro v w9 ⟨rfl, Bb_9, G9⟩
  have Bg_9 := Bg_8.gk G9 hgb
  have Bq_9 := Bq_8.gk G9 hqb
  have Kp9 := Kp8.set G9 (Or.inl (by simp))
  intro a72 u72 h112_72
  have F72 := F71.pt u72
  change Code.wp _ _ _ _ _
  refine wp_seq ?_
  refine rg_list ?_
  refine wl_p (ex_as (v := .nilIface) rfl) F72.l fun a73 u73 h4_73 => ?_
  have F73 := F72.pt u73
  change Code.wp _ _ _ _ _
  refine wp_ret ?_
  try simp only [Exit.then, Exit.inBlock]
  exact bodyPost_ret (v := .nilIface) ((results_tmp rfl _ _ _).trans (by rw [h4_73])) F73.defers ⟨rfl, Bb_9, Bg_9, Bq_9, Kp9⟩
theorem app_first_up {b g q cap seq x y : Nat} {arr : Array Value} {c3 c4 c5 c6 c7 c8 c9 c10 c11 c12 c20 c21 c22 s0 s1 s2 s4 s5 s6 s7 s8 s9 s10 : Value} {w0 : World} (hb : Blk w0 b 70 #[(.float .f64 x), (.int .u64 seq), (.slice (some ⟨g, 0, none⟩) cap cap), c3, c4, c5, c6, c7, c8, c9, c10, c11, c12, (.int .u64 cap), (.int .u64 0), (.int .u64 0), (.int .u64 0), (.slice none 0 0), (.int .i64 0), (.int .i8 0), c20, c21, c22]) (hg : Blk w0 g 74 arr) (hq : Blk w0 q 96 #[s0, s1, s2, (.float .f64 y), s4, s5, s6, s7, s8, s9, s10]) (hgb : g ≠ b) (hqb : q ≠ b) (hgq : g ≠ q) (hc0 : 0 < cap) (hc1 : cap ≤ 1024) (hin : 0 < arr.size) (hord : (FloatKind.f64.format.order x y == some .lt) = true) (hn : isNaN y = false) :
    Calls Tryz.prog 15 #[pt b, pt q] w0 fun e w' => e = .returned .nilIface ∧ Blk w' b 70 #[(.float .f64 (fceil y)), (.int .u64 seq), (.slice (some ⟨g, 0, none⟩) cap cap), c3, c4, c5, c6, c7, c8, c9, c10, c11, c12, (.int .u64 cap), (.int .u64 0), (.int .u64 (((0 : Int) + 1) % cap)), (.int .u64 (0 + 1)), (.slice none 0 0), (.int .i64 0), (.int .i8 0), c20, c21, c22] ∧ Blk w' g 74 (arr.setIfInBounds 0 (.pointer (some ⟨q, 0, none⟩))) ∧ Blk w' q 96 #[(.int .u64 seq), s1, s2, (.float .f64 y), s4, s5, s6, s7, s8, s9, s10] ∧ Kp [b, g, q] w0 w' := by
  refine calls_of_wp Tryz.func15 rfl ?_
  generalize hA : Act.mk _ _ = a0
  have F0 : Fz 113 a0 := by subst hA; exact ⟨by simp [Tryz.ntmps15], rfl⟩
  have h0_0 : a0.tmps.getD 0 undef = (.pointer (some ⟨b, 0, none⟩)) := by subst hA; exact fr_arg rfl
  have h1_0 : a0.tmps.getD 1 undef = (.pointer (some ⟨q, 0, none⟩)) := by subst hA; exact fr_arg rfl
  clear hA
  have Kp0 := Kp.refl [b, g, q] w0
  refine wp_seq ?_
  refine rg_list ?_
  refine wl_p (ex_as (v := .nilIface) rfl) F0.l fun a1 u1 h4_1 => ?_
  have F1 := F0.pt u1
  change Code.wp _ _ _ _ _
  refine wp_seq ?_
  refine wp_seq ?_
  obtain ⟨w1, hw1⟩ : ∃ w, w = w0.drew := ⟨_, rfl⟩
  have G1 : w0.grownBy w1 none := hw1 ▸ grown_drew _
  have Bb_1 := hb.gn G1
  have Bg_1 := hg.gn G1
  have Bq_1 := hq.gn G1
  have Kp1 := Kp0.new G1
  refine rg_still hw1 hmix (by kernel_rfl) ?_
  clear hb hg hq
  refine st_p (ex_mv (u1.w h0_0)) F1.l fun a2 u2 h5_2 => ?_
  have F2 := F1.pt u2
  refine st_p (ex_nil h5_2) F2.l fun a3 u3 h6_3 => ?_
  have F3 := F2.pt u3
  refine st_p (ex_fb 14 h6_3) F3.l fun a4 u4 h7_4 => ?_
  have F4 := F3.pt u4
  refine st_p (ex_le (v := (.int .u64 0)) h7_4 (Bb_1.cell 14)) F4.l fun a5 u5 h8_5 => ?_
  have F5 := F4.pt u5
  have h0_5 := u5.w (u4.w (u3.w (u2.w (u1.w h0_0))))
  refine st_p (ex_mv h0_5) F5.l fun a6 u6 h9_6 => ?_
  have F6 := F5.pt u6
  refine st_p (ex_nil h9_6) F6.l fun a7 u7 h10_7 => ?_
  have F7 := F6.pt u7
  refine st_p (ex_fb 15 h10_7) F7.l fun a8 u8 h11_8 => ?_
  have F8 := F7.pt u8
  refine st_p (ex_le (v := (.int .u64 0)) h11_8 (Bb_1.cell 15)) F8.l fun a9 u9 h12_9 => ?_
  have F9 := F8.pt u9
  have h8_9 := u9.w (u8.w (u7.w (u6.w h8_5)))
  refine st_p (ex_bin (v := (.bool true)) h8_9 h12_9 ((bo_eqlu _ _ _).trans (by rfl))) F9.l fun a10 u10 h13_10 => ?_
  have F10 := F9.pt u10
  refine st_p (ex_mv h13_10) F10.l fun a11 u11 h14_11 => ?_
  have F11 := F10.pt u11
  have h0_11 := u11.w (u10.w (u9.w (u8.w (u7.w (u6.w h0_5)))))
  refine st_g (yl (e := 14) rfl h14_11) (ex_mv h0_11) F11.l fun a12 u12 h15_12 => ?_
  have F12 := F11.pt u12
  refine st_g (yl (e := 14) rfl (u12.w h14_11)) (ex_nil h15_12) F12.l fun a13 u13 h16_13 => ?_
  have F13 := F12.pt u13
  refine st_g (yl (e := 14) rfl (u13.w (u12.w h14_11))) (ex_fb 16 h16_13) F13.l fun a14 u14 h17_14 => ?_
  have F14 := F13.pt u14
  have h14_14 := u14.w (u13.w (u12.w h14_11))
  refine st_g (yl (e := 14) rfl h14_14) (ex_le (v := (.int .u64 0)) h17_14 (Bb_1.cell 16)) F14.l fun a15 u15 h18_15 => ?_
  have F15 := F14.pt u15
  refine st_g (yl (e := 14) rfl (u15.w h14_14)) (ex_bin (vy := (.int .u64 0)) (v := (.bool false)) h18_15 rfl ((bo_gtru _ _ _).trans (by rfl))) F15.l fun a16 u16 h19_16 => ?_
  have F16 := F15.pt u16
  refine st_p (ex_pick (q := true) (u16.w (u15.w h14_14)) h19_16) F16.l fun a17 u17 h20_17 => ?_
  have F17 := F16.pt u17
  change Code.wp _ _ _ _ _
  refine wp_cond_false h20_17 ?_
  refine wp_skip ?_
  change Code.wp _ _ _ _ _
  refine wp_seq ?_
  refine rg_list ?_
  have h1_17 := u17.w (u16.w (u15.w (u14.w (u13.w (u12.w (u11.w (u10.w (u9.w (u8.w (u7.w (u6.w (u5.w (u4.w (u3.w (u2.w (u1.w h1_0))))))))))))))))
  refine wl_p (ex_mv h1_17) F17.l fun a18 u18 h22_18 => ?_
  have F18 := F17.pt u18
  have h0_18 := u18.w (u17.w (u16.w (u15.w (u14.w (u13.w (u12.w h0_11))))))
  refine wl_p (ex_mv h0_18) F18.l fun a19 u19 h23_19 => ?_
  have F19 := F18.pt u19
  refine wl_p (ex_nil h23_19) F19.l fun a20 u20 h24_20 => ?_
  have F20 := F19.pt u20
  refine wl_p (ex_fb 1 h24_20) F20.l fun a21 u21 h25_21 => ?_
  have F21 := F20.pt u21
  refine wl_p (ex_le (v := (.int .u64 seq)) h25_21 (Bb_1.cell 1)) F21.l fun a22 u22 h26_22 => ?_
  have F22 := F21.pt u22
  have h22_22 := u22.w (u21.w (u20.w (u19.w h22_18)))
  refine wl_p (ex_nil h22_22) F22.l fun a23 u23 h27_23 => ?_
  have F23 := F22.pt u23
  refine wl_p (ex_fb 0 h27_23) F23.l fun a24 u24 h28_24 => ?_
  have F24 := F23.pt u24
  obtain ⟨w2, hr2, Bq_2, G2⟩ := st_run (T := 25) (o := 0) (v := (.int .u64 seq)) (cs' := #[(.int .u64 seq), s1, s2, (.float .f64 y), s4, s5, s6, s7, s8, s9, s10]) (fun _ => by kernel_rfl) Bq_1 rfl (by simp) rfl
  have Bb_2 := Bb_1.gk G2 (Ne.symm hqb)
  have Bg_2 := Bg_1.gk G2 hgq
  have Kp2 := Kp1.set G2 (Or.inl (by simp))
  refine wl_n (ex_st h28_24 (u24.w (u23.w h26_22)) hr2) ?_
  change Code.wp _ _ _ _ _
  refine wp_seq ?_
  refine wp_seq ?_
  refine rg_list ?_
  have h0_24 := u24.w (u23.w (u22.w (u21.w (u20.w (u19.w h0_18)))))
  refine wl_p (ex_mv h0_24) F24.l fun a25 u25 h29_25 => ?_
  have F25 := F24.pt u25
  refine wl_p (ex_nil h29_25) F25.l fun a26 u26 h30_26 => ?_
  have F26 := F25.pt u26
  refine wl_p (ex_fb 16 h30_26) F26.l fun a27 u27 h31_27 => ?_
  have F27 := F26.pt u27
  refine wl_p (ex_le (v := (.int .u64 0)) h31_27 (Bb_2.cell 16)) F27.l fun a28 u28 h32_28 => ?_
  have F28 := F27.pt u28
  refine wl_p (ex_bin (vy := (.int .u64 0)) (v := (.bool false)) h32_28 rfl ((bo_gtru _ _ _).trans (by rfl))) F28.l fun a29 u29 h33_29 => ?_
  have F29 := F28.pt u29
  change Code.wp _ _ _ _ _
  refine wp_cond_false h33_29 ?_
  refine wp_skip ?_
  change Code.wp _ _ _ _ _
  refine wp_seq ?_
  obtain ⟨w3, hw3⟩ : ∃ w, w = w2.drew := ⟨_, rfl⟩
  have G3 : w2.grownBy w3 none := hw3 ▸ grown_drew _
  have Bb_3 := Bb_2.gn G3
  have Bg_3 := Bg_2.gn G3
  have Bq_3 := Bq_2.gn G3
  have Kp3 := Kp2.new G3
  refine rg_stillt 10 hw3 hmix (by kernel_rfl) ?_
  have h0_29 := u29.w (u28.w (u27.w (u26.w (u25.w h0_24))))
  refine st_p (ex_mv h0_29) F29.l fun a30 u30 h62_30 => ?_
  have F30 := F29.pt u30
  refine st_p (ex_nil h62_30) F30.l fun a31 u31 h63_31 => ?_
  have F31 := F30.pt u31
  refine st_p (ex_fb 2 h63_31) F31.l fun a32 u32 h64_32 => ?_
  have F32 := F31.pt u32
  refine st_p (ex_le (v := (.slice (some ⟨g, 0, none⟩) cap cap)) h64_32 (Bb_3.cell 2)) F32.l fun a33 u33 h65_33 => ?_
  have F33 := F32.pt u33
  have h0_33 := u33.w (u32.w (u31.w (u30.w h0_29)))
  refine st_p (ex_mv h0_33) F33.l fun a34 u34 h66_34 => ?_
  have F34 := F33.pt u34
  refine st_p (ex_nil h66_34) F34.l fun a35 u35 h67_35 => ?_
  have F35 := F34.pt u35
  refine st_p (ex_fb 15 h67_35) F35.l fun a36 u36 h68_36 => ?_
  have F36 := F35.pt u36
  refine st_p (ex_le (v := (.int .u64 0)) h68_36 (Bb_3.cell 15)) F36.l fun a37 u37 h69_37 => ?_
  have F37 := F36.pt u37
  have h1_37 := u37.w (u36.w (u35.w (u34.w (u33.w (u32.w (u31.w (u30.w (u29.w (u28.w (u27.w (u26.w (u25.w (u24.w (u23.w (u22.w (u21.w (u20.w (u19.w (u18.w h1_17)))))))))))))))))))
  refine st_p (ex_mv h1_37) F37.l fun a38 u38 h70_38 => ?_
  have F38 := F37.pt u38
  have h65_38 := u38.w (u37.w (u36.w (u35.w (u34.w h65_33))))
  refine st_p (ex_ixg (vx := (.slice (some ⟨g, 0, none⟩) cap cap)) (vy := (.int .u64 0)) (v := (.pointer (some ⟨g, 0, none⟩))) h65_38 (u38.w h69_37) (ix_run g cap 0 (by omega) _)) F38.l fun a39 u39 h71_39 => ?_
  have F39 := F38.pt u39
  obtain ⟨w4, hr4, Bg_4, G4⟩ := st_run (T := 74) (o := 0) (v := (.pointer (some ⟨q, 0, none⟩))) (cs' := (arr.setIfInBounds 0 (.pointer (some ⟨q, 0, none⟩)))) (fun _ => by kernel_rfl) Bg_3 rfl (hin) rfl
  have Bb_4 := Bb_3.gk G4 (Ne.symm hgb)
  have Bq_4 := Bq_3.gk G4 (Ne.symm hgq)
  have Kp4 := Kp3.set G4 (Or.inl (by simp))
  refine wl_n (ex_st h71_39 (u39.w h70_38) hr4) ?_
  change Code.wp _ _ _ _ _
  refine wp_seq ?_
  obtain ⟨w5, hw5⟩ : ∃ w, w = w4.drew := ⟨_, rfl⟩
  have G5 : w4.grownBy w5 none := hw5 ▸ grown_drew _
  have Bb_5 := Bb_4.gn G5
  have Bg_5 := Bg_4.gn G5
  have Bq_5 := Bq_4.gn G5
  have Kp5 := Kp4.new G5
  refine rg_stillt 13 hw5 hmix (by kernel_rfl) ?_
  have h0_39 := u39.w (u38.w (u37.w (u36.w (u35.w (u34.w h0_33)))))
  refine st_p (ex_mv h0_39) F39.l fun a40 u40 h72_40 => ?_
  have F40 := F39.pt u40
  refine st_p (ex_mv (u40.w h0_39)) F40.l fun a41 u41 h73_41 => ?_
  have F41 := F40.pt u41
  refine st_p (ex_nil h73_41) F41.l fun a42 u42 h74_42 => ?_
  have F42 := F41.pt u42
  refine st_p (ex_fb 15 h74_42) F42.l fun a43 u43 h75_43 => ?_
  have F43 := F42.pt u43
  refine st_p (ex_le (v := (.int .u64 0)) h75_43 (Bb_5.cell 15)) F43.l fun a44 u44 h76_44 => ?_
  have F44 := F43.pt u44
  refine st_p (ex_bin (vy := (.int .u64 1)) (v := (.int .u64 (0 + 1))) h76_44 rfl (bo_addu _ _ _ (by omega) (by omega))) F44.l fun a45 u45 h77_45 => ?_
  have F45 := F44.pt u45
  have h0_45 := u45.w (u44.w (u43.w (u42.w (u41.w (u40.w h0_39)))))
  refine st_p (ex_mv h0_45) F45.l fun a46 u46 h78_46 => ?_
  have F46 := F45.pt u46
  refine st_p (ex_nil h78_46) F46.l fun a47 u47 h79_47 => ?_
  have F47 := F46.pt u47
  refine st_p (ex_fb 13 h79_47) F47.l fun a48 u48 h80_48 => ?_
  have F48 := F47.pt u48
  refine st_p (ex_le (v := (.int .u64 cap)) h80_48 (Bb_5.cell 13)) F48.l fun a49 u49 h81_49 => ?_
  have F49 := F48.pt u49
  have h77_49 := u49.w (u48.w (u47.w (u46.w h77_45)))
  refine st_p (ex_bin (v := (.int .u64 (((0 : Int) + 1) % cap))) h77_49 h81_49 (bo_remu _ _ _ (by omega) (by omega) (by omega))) F49.l fun a50 u50 h82_50 => ?_
  have F50 := F49.pt u50
  have h72_50 := u50.w (u49.w (u48.w (u47.w (u46.w (u45.w (u44.w (u43.w (u42.w (u41.w h72_40)))))))))
  refine st_p (ex_nil h72_50) F50.l fun a51 u51 h83_51 => ?_
  have F51 := F50.pt u51
  refine st_p (ex_fb 15 h83_51) F51.l fun a52 u52 h84_52 => ?_
  have F52 := F51.pt u52
  obtain ⟨w6, hr6, Bb_6, G6⟩ := st_run (T := 50) (o := 15) (v := (.int .u64 (((0 : Int) + 1) % cap))) (cs' := #[(.float .f64 x), (.int .u64 seq), (.slice (some ⟨g, 0, none⟩) cap cap), c3, c4, c5, c6, c7, c8, c9, c10, c11, c12, (.int .u64 cap), (.int .u64 0), (.int .u64 (((0 : Int) + 1) % cap)), (.int .u64 0), (.slice none 0 0), (.int .i64 0), (.int .i8 0), c20, c21, c22]) (fun _ => by kernel_rfl) Bb_5 rfl (by simp) rfl
  have Bg_6 := Bg_5.gk G6 hgb
  have Bq_6 := Bq_5.gk G6 hqb
  have Kp6 := Kp5.set G6 (Or.inl (by simp))
  refine wl_n (ex_st h84_52 (u52.w (u51.w h82_50)) hr6) ?_
  change Code.wp _ _ _ _ _
  refine wp_seq ?_
  refine rg_list ?_
  have h0_52 := u52.w (u51.w (u50.w (u49.w (u48.w (u47.w (u46.w h0_45))))))
  refine wl_p (ex_mv h0_52) F52.l fun a53 u53 h85_53 => ?_
  have F53 := F52.pt u53
  refine wl_p (ex_nil h85_53) F53.l fun a54 u54 h86_54 => ?_
  have F54 := F53.pt u54
  refine wl_p (ex_fb 16 h86_54) F54.l fun a55 u55 h87_55 => ?_
  have F55 := F54.pt u55
  refine wl_p (ex_le (v := (.int .u64 0)) h87_55 (Bb_6.cell 16)) F55.l fun a56 u56 h88_56 => ?_
  have F56 := F55.pt u56
  refine wl_p (ex_bin (vy := (.int .u64 1)) (v := (.int .u64 (0 + 1))) h88_56 rfl (bo_addu _ _ _ (by omega) (by omega))) F56.l fun a57 u57 h89_57 => ?_
  have F57 := F56.pt u57
  have h85_57 := u57.w (u56.w (u55.w (u54.w h85_53)))
  refine wl_p (ex_nil h85_57) F57.l fun a58 u58 h90_58 => ?_
  have F58 := F57.pt u58
  refine wl_p (ex_fb 16 h90_58) F58.l fun a59 u59 h91_59 => ?_
  have F59 := F58.pt u59
  obtain ⟨w7, hr7, Bb_7, G7⟩ := st_run (T := 50) (o := 16) (v := (.int .u64 (0 + 1))) (cs' := #[(.float .f64 x), (.int .u64 seq), (.slice (some ⟨g, 0, none⟩) cap cap), c3, c4, c5, c6, c7, c8, c9, c10, c11, c12, (.int .u64 cap), (.int .u64 0), (.int .u64 (((0 : Int) + 1) % cap)), (.int .u64 (0 + 1)), (.slice none 0 0), (.int .i64 0), (.int .i8 0), c20, c21, c22]) (fun _ => by kernel_rfl) Bb_6 rfl (by simp) rfl
  have Bg_7 := Bg_6.gk G7 hgb
  have Bq_7 := Bq_6.gk G7 hqb
  have Kp7 := Kp6.set G7 (Or.inl (by simp))
  refine wl_n (ex_st h91_59 (u59.w (u58.w h89_57)) hr7) ?_
  change Code.wp _ _ _ _ _
  refine wp_seq ?_
  refine wp_seq ?_
  obtain ⟨w8, hw8⟩ : ∃ w, w = w7.drew := ⟨_, rfl⟩
  have G8 : w7.grownBy w8 none := hw8 ▸ grown_drew _
  have Bb_8 := Bb_7.gn G8
  have Bg_8 := Bg_7.gn G8
  have Bq_8 := Bq_7.gn G8
  have Kp8 := Kp7.new G8
  refine rg_still hw8 hmix (by kernel_rfl) ?_
  have h0_59 := u59.w (u58.w (u57.w (u56.w (u55.w (u54.w (u53.w h0_52))))))
  refine st_p (ex_mv h0_59) F59.l fun a60 u60 h92_60 => ?_
  have F60 := F59.pt u60
  refine st_p (ex_nil h92_60) F60.l fun a61 u61 h93_61 => ?_
  have F61 := F60.pt u61
  refine st_p (ex_fb 0 h93_61) F61.l fun a62 u62 h94_62 => ?_
  have F62 := F61.pt u62
  refine st_p (ex_le (v := (.float .f64 x)) h94_62 (Bb_8.cell 0)) F62.l fun a63 u63 h95_63 => ?_
  have F63 := F62.pt u63
  have h1_63 := u63.w (u62.w (u61.w (u60.w (u59.w (u58.w (u57.w (u56.w (u55.w (u54.w (u53.w (u52.w (u51.w (u50.w (u49.w (u48.w (u47.w (u46.w (u45.w (u44.w (u43.w (u42.w (u41.w (u40.w (u39.w (u38.w h1_37)))))))))))))))))))))))))
  refine st_p (ex_mv h1_63) F63.l fun a64 u64 h96_64 => ?_
  have F64 := F63.pt u64
  refine st_p (ex_nil h96_64) F64.l fun a65 u65 h97_65 => ?_
  have F65 := F64.pt u65
  refine st_p (ex_fb 3 h97_65) F65.l fun a66 u66 h98_66 => ?_
  have F66 := F65.pt u66
  refine st_p (ex_le (v := (.float .f64 y)) h98_66 (Bq_8.cell 3)) F66.l fun a67 u67 h99_67 => ?_
  have F67 := F66.pt u67
  have h95_67 := u67.w (u66.w (u65.w (u64.w h95_63)))
  refine st_p (ex_bin (v := (.bool true)) h95_67 h99_67 ((bo_lssf _ _ _).trans (by rw [hord]))) F67.l fun a68 u68 h100_68 => ?_
  have F68 := F67.pt u68
  change Code.wp _ _ _ _ _
  refine wp_cond_true h100_68 ?_
  refine rg_list ?_
  have h0_68 := u68.w (u67.w (u66.w (u65.w (u64.w (u63.w (u62.w (u61.w (u60.w h0_59))))))))
  refine wl_p (ex_mv h0_68) F68.l fun a69 u69 h101_69 => ?_
  have F69 := F68.pt u69
  have h1_69 := u69.w (u68.w (u67.w (u66.w (u65.w (u64.w h1_63)))))
  refine wl_p (ex_mv h1_69) F69.l fun a70 u70 h102_70 => ?_
  have F70 := F69.pt u70
  refine wl_p (ex_nil h102_70) F70.l fun a71 u71 h103_71 => ?_
  have F71 := F70.pt u71
  refine wl_p (ex_fb 3 h103_71) F71.l fun a72 u72 h104_72 => ?_
  have F72 := F71.pt u72
  refine wl_p (ex_le (v := (.float .f64 y)) h104_72 (Bq_8.cell 3)) F72.l fun a73 u73 h105_73 => ?_
  have F73 := F72.pt u73
  refine wl_cl (args := #[(.float .f64 y)]) (R := fun v w' => v = (.float .f64 (fceil y)) ∧ (w8 = w')) (ex_cl (fun _ _ => by kernel_rfl) (arg1 h105_73)) ((ceil_any y hn _).mono fun _ _ h => ⟨_, h.1, rfl, h.2⟩) F73.l ?_
  rintro v w' ⟨rfl, rfl⟩
  intro a74 u74 h106_74
  have F74 := F73.pt u74
  have h101_74 := u74.w (u73.w (u72.w (u71.w (u70.w h101_69))))
  refine wl_p (ex_nil h101_74) F74.l fun a75 u75 h107_75 => ?_
  have F75 := F74.pt u75
  refine wl_p (ex_fb 0 h107_75) F75.l fun a76 u76 h108_76 => ?_
  have F76 := F75.pt u76
  obtain ⟨w9, hr9, Bb_9, G9⟩ := st_run (T := 24) (o := 0) (v := (.float .f64 (fceil y))) (cs' := #[(.float .f64 (fceil y)), (.int .u64 seq), (.slice (some ⟨g, 0, none⟩) cap cap), c3, c4, c5, c6, c7, c8, c9, c10, c11, c12, (.int .u64 cap), (.int .u64 0), (.int .u64 (((0 : Int) + 1) % cap)), (.int .u64 (0 + 1)), (.slice none 0 0), (.int .i64 0), (.int .i8 0), c20, c21, c22]) (fun _ => by kernel_rfl) Bb_8 rfl (by simp) rfl
  have Bg_9 := Bg_8.gk G9 hgb
  have Bq_9 := Bq_8.gk G9 hqb
  have Kp9 := Kp8.set G9 (Or.inl (by simp))
  refine wl_n (ex_st h108_76 (u76.w (u75.w h106_74)) hr9) ?_
  change Code.wp _ _ _ _ _
  refine wp_seq ?_
  refine rg_list ?_
  have h0_76 := u76.w (u75.w (u74.w (u73.w (u72.w (u71.w (u70.w (u69.w h0_68)))))))
  refine wl_p (ex_mv h0_76) F76.l fun a77 u77 h109_77 => ?_
  have F77 := F76.pt u77
  refine wl_p (ex_nil h109_77) F77.l fun a78 u78 h110_78 => ?_
  have F78 := F77.pt u78
  refine wl_p (ex_fb 17 h110_78) F78.l fun a79 u79 h111_79 => ?_
  have F79 := F78.pt u79
  refine wl_cl (args := #[(.pointer (some ⟨b, 17, none⟩))]) (R := fun v w' => v = (.tuple #[]) ∧ (Blk w' b 70 #[(.float .f64 (fceil y)), (.int .u64 seq), (.slice (some ⟨g, 0, none⟩) cap cap), c3, c4, c5, c6, c7, c8, c9, c10, c11, c12, (.int .u64 cap), (.int .u64 0), (.int .u64 (((0 : Int) + 1) % cap)), (.int .u64 (0 + 1)), (.slice none 0 0), (.int .i64 0), (.int .i8 0), c20, c21, c22] ∧ w9.grownBy w' (some b))) (ex_cl (fun _ _ => by kernel_rfl) (arg1 h111_79)) ((reset17 Bb_9).mono fun _ _ h => ⟨_, h.1, rfl, h.2⟩) F79.l ?_
  rintro v w10 ⟨rfl, Bb_10, G10⟩
  have Bg_10 := Bg_9.gk G10 hgb
  have Bq_10 := Bq_9.gk G10 hqb
  have Kp10 := Kp9.set G10 (Or.inl (by simp))
  intro a80 u80 h112_80
  have F80 := F79.pt u80
  change Code.wp _ _ _ _ _
  refine wp_seq ?_
  refine rg_list ?_
  refine wl_p (ex_as (v := .nilIface) rfl) F80.l fun a81 u81 h4_81 => ?_
  have F81 := F80.pt u81
  change Code.wp _ _ _ _ _
  refine wp_ret ?_
  try simp only [Exit.then, Exit.inBlock]
  exact bodyPost_ret (v := .nilIface) ((results_tmp rfl _ _ _).trans (by rw [h4_81])) F81.defers ⟨rfl, Bb_10, Bg_10, Bq_10, Kp10⟩
theorem app_more {b g q cap seq x y t j v num : Nat} {arr : Array Value} {c3 c4 c5 c6 c7 c8 c9 c10 c11 c12 c20 c21 c22 s0 s1 s2 s4 s5 s6 s7 s8 s9 s10 : Value} {w0 : World} (hb : Blk w0 b 70 #[(.float .f64 x), (.int .u64 seq), (.slice (some ⟨g, 0, none⟩) cap cap), c3, c4, c5, c6, c7, c8, c9, c10, c11, c12, (.int .u64 cap), (.int .u64 0), (.int .u64 t), (.int .u64 t), (.slice none 0 0), (.int .i64 0), (.int .i8 0), c20, c21, c22]) (hg : Blk w0 g 74 arr) (hq : Blk w0 q 96 #[s0, s1, s2, (.float .f64 y), s4, s5, s6, s7, s8, s9, s10]) (hgb : g ≠ b) (hqb : q ≠ b) (hgq : g ≠ q) (hc0 : 0 < cap) (hc1 : cap ≤ 1024) {v1 v2 v3 v4 v5 v6 v7 v8 v9 v10 : Value} (hv : Blk w0 v 96 #[(.int .u64 num), v1, v2, v3, v4, v5, v6, v7, v8, v9, v10]) (hvb : v ≠ b) (hvq : v ≠ q) (hgv : g ≠ v) (htj : t = j + 1) (htc : t < cap) (hin : t < arr.size) (harr : arr[j]? = some (pt v)) (hnum : num < 18446744073709551615) (hord : (FloatKind.f64.format.order x y == some .lt) = false) :
    Calls Tryz.prog 15 #[pt b, pt q] w0 fun e w' => e = .returned .nilIface ∧ Blk w' b 70 #[(.float .f64 x), (.int .u64 seq), (.slice (some ⟨g, 0, none⟩) cap cap), c3, c4, c5, c6, c7, c8, c9, c10, c11, c12, (.int .u64 cap), (.int .u64 0), (.int .u64 ((t + 1) % cap)), (.int .u64 (t + 1)), (.slice none 0 0), (.int .i64 0), (.int .i8 0), c20, c21, c22] ∧ Blk w' g 74 (arr.setIfInBounds t (.pointer (some ⟨q, 0, none⟩))) ∧ Blk w' q 96 #[(.int .u64 (num + 1)), s1, s2, (.float .f64 y), s4, s5, s6, s7, s8, s9, s10] ∧ Kp [b, g, q] w0 w' := by
  refine calls_of_wp Tryz.func15 rfl ?_
  generalize hA : Act.mk _ _ = a0
  have F0 : Fz 113 a0 := by subst hA; exact ⟨by simp [Tryz.ntmps15], rfl⟩
  have h0_0 : a0.tmps.getD 0 undef = (.pointer (some ⟨b, 0, none⟩)) := by subst hA; exact fr_arg rfl
  have h1_0 : a0.tmps.getD 1 undef = (.pointer (some ⟨q, 0, none⟩)) := by subst hA; exact fr_arg rfl
  clear hA
  have Kp0 := Kp.refl [b, g, q] w0
  refine wp_seq ?_
  refine rg_list ?_
  refine wl_p (ex_as (v := .nilIface) rfl) F0.l fun a1 u1 h4_1 => ?_
  have F1 := F0.pt u1
  change Code.wp _ _ _ _ _
  refine wp_seq ?_
  refine wp_seq ?_
  obtain ⟨w1, hw1⟩ : ∃ w, w = w0.drew := ⟨_, rfl⟩
  have G1 : w0.grownBy w1 none := hw1 ▸ grown_drew _
  have Bb_1 := hb.gn G1
  have Bg_1 := hg.gn G1
  have Bq_1 := hq.gn G1
  have Bv_1 := hv.gn G1
  have Kp1 := Kp0.new G1
  refine rg_still hw1 hmix (by kernel_rfl) ?_
  clear hb hg hq hv
  refine st_p (ex_mv (u1.w h0_0)) F1.l fun a2 u2 h5_2 => ?_
  have F2 := F1.pt u2
  refine st_p (ex_nil h5_2) F2.l fun a3 u3 h6_3 => ?_
  have F3 := F2.pt u3
  refine st_p (ex_fb 14 h6_3) F3.l fun a4 u4 h7_4 => ?_
  have F4 := F3.pt u4
  refine st_p (ex_le (v := (.int .u64 0)) h7_4 (Bb_1.cell 14)) F4.l fun a5 u5 h8_5 => ?_
  have F5 := F4.pt u5
  have h0_5 := u5.w (u4.w (u3.w (u2.w (u1.w h0_0))))
  refine st_p (ex_mv h0_5) F5.l fun a6 u6 h9_6 => ?_
  have F6 := F5.pt u6
  refine st_p (ex_nil h9_6) F6.l fun a7 u7 h10_7 => ?_
  have F7 := F6.pt u7
  refine st_p (ex_fb 15 h10_7) F7.l fun a8 u8 h11_8 => ?_
  have F8 := F7.pt u8
  refine st_p (ex_le (v := (.int .u64 t)) h11_8 (Bb_1.cell 15)) F8.l fun a9 u9 h12_9 => ?_
  have F9 := F8.pt u9
  have h8_9 := u9.w (u8.w (u7.w (u6.w h8_5)))
  refine st_p (ex_bin (v := (.bool false)) h8_9 h12_9 ((bo_eqlu _ _ _).trans (by rw [show ((0 : Int) == (t : Int)) = false from by simp; omega]))) F9.l fun a10 u10 h13_10 => ?_
  have F10 := F9.pt u10
  refine st_p (ex_mv h13_10) F10.l fun a11 u11 h14_11 => ?_
  have F11 := F10.pt u11
  refine st_k (yl (e := 14) rfl h14_11) (by decide) F11.l fun a12 u12 h15_12 => ?_
  have F12 := F11.pt u12
  refine st_k (yl (e := 14) rfl (u12.w h14_11)) (by decide) F12.l fun a13 u13 h16_13 => ?_
  have F13 := F12.pt u13
  refine st_k (yl (e := 14) rfl (u13.w (u12.w h14_11))) (by decide) F13.l fun a14 u14 h17_14 => ?_
  have F14 := F13.pt u14
  have h14_14 := u14.w (u13.w (u12.w h14_11))
  refine st_k (yl (e := 14) rfl h14_14) (by decide) F14.l fun a15 u15 h18_15 => ?_
  have F15 := F14.pt u15
  refine st_k (yl (e := 14) rfl (u15.w h14_14)) (by decide) F15.l fun a16 u16 h19_16 => ?_
  have F16 := F15.pt u16
  refine st_p (ex_pick (q := false) (v := (.bool false)) (u16.w (u15.w h14_14)) rfl) F16.l fun a17 u17 h20_17 => ?_
  have F17 := F16.pt u17
  change Code.wp _ _ _ _ _
  refine wp_cond_false h20_17 ?_
  refine wp_skip ?_
  change Code.wp _ _ _ _ _
  refine wp_seq ?_
  refine rg_list ?_
  have h1_17 := u17.w (u16.w (u15.w (u14.w (u13.w (u12.w (u11.w (u10.w (u9.w (u8.w (u7.w (u6.w (u5.w (u4.w (u3.w (u2.w (u1.w h1_0))))))))))))))))
  refine wl_p (ex_mv h1_17) F17.l fun a18 u18 h22_18 => ?_
  have F18 := F17.pt u18
  have h0_18 := u18.w (u17.w (u16.w (u15.w (u14.w (u13.w (u12.w (u11.w (u10.w (u9.w (u8.w (u7.w (u6.w h0_5))))))))))))
  refine wl_p (ex_mv h0_18) F18.l fun a19 u19 h23_19 => ?_
  have F19 := F18.pt u19
  refine wl_p (ex_nil h23_19) F19.l fun a20 u20 h24_20 => ?_
  have F20 := F19.pt u20
  refine wl_p (ex_fb 1 h24_20) F20.l fun a21 u21 h25_21 => ?_
  have F21 := F20.pt u21
  refine wl_p (ex_le (v := (.int .u64 seq)) h25_21 (Bb_1.cell 1)) F21.l fun a22 u22 h26_22 => ?_
  have F22 := F21.pt u22
  have h22_22 := u22.w (u21.w (u20.w (u19.w h22_18)))
  refine wl_p (ex_nil h22_22) F22.l fun a23 u23 h27_23 => ?_
  have F23 := F22.pt u23
  refine wl_p (ex_fb 0 h27_23) F23.l fun a24 u24 h28_24 => ?_
  have F24 := F23.pt u24
  obtain ⟨w2, hr2, Bq_2, G2⟩ := st_run (T := 25) (o := 0) (v := (.int .u64 seq)) (cs' := #[(.int .u64 seq), s1, s2, (.float .f64 y), s4, s5, s6, s7, s8, s9, s10]) (fun _ => by kernel_rfl) Bq_1 rfl (by simp) rfl
  have Bb_2 := Bb_1.gk G2 (Ne.symm hqb)
  have Bg_2 := Bg_1.gk G2 hgq
  have Bv_2 := Bv_1.gk G2 hvq
  have Kp2 := Kp1.set G2 (Or.inl (by simp))
  refine wl_n (ex_st h28_24 (u24.w (u23.w h26_22)) hr2) ?_
  change Code.wp _ _ _ _ _
  refine wp_seq ?_
  refine wp_seq ?_
  refine rg_list ?_
  have h0_24 := u24.w (u23.w (u22.w (u21.w (u20.w (u19.w h0_18)))))
  refine wl_p (ex_mv h0_24) F24.l fun a25 u25 h29_25 => ?_
  have F25 := F24.pt u25
  refine wl_p (ex_nil h29_25) F25.l fun a26 u26 h30_26 => ?_
  have F26 := F25.pt u26
  refine wl_p (ex_fb 16 h30_26) F26.l fun a27 u27 h31_27 => ?_
  have F27 := F26.pt u27
  refine wl_p (ex_le (v := (.int .u64 t)) h31_27 (Bb_2.cell 16)) F27.l fun a28 u28 h32_28 => ?_
  have F28 := F27.pt u28
  refine wl_p (ex_bin (vy := (.int .u64 0)) (v := (.bool true)) h32_28 rfl ((bo_gtru _ _ _).trans (by rw [decide_eq_true (by omega)]))) F28.l fun a29 u29 h33_29 => ?_
  have F29 := F28.pt u29
  change Code.wp _ _ _ _ _
  refine wp_cond_true h33_29 ?_
  obtain ⟨w3, hw3⟩ : ∃ w, w = w2.drew := ⟨_, rfl⟩
  have G3 : w2.grownBy w3 none := hw3 ▸ grown_drew _
  have Bb_3 := Bb_2.gn G3
  have Bg_3 := Bg_2.gn G3
  have Bq_3 := Bq_2.gn G3
  have Bv_3 := Bv_2.gn G3
  have Kp3 := Kp2.new G3
  refine rg_stillt 28 hw3 hmix (by kernel_rfl) ?_
  have h1_29 := u29.w (u28.w (u27.w (u26.w (u25.w (u24.w (u23.w (u22.w (u21.w (u20.w (u19.w (u18.w h1_17)))))))))))
  refine st_p (ex_mv h1_29) F29.l fun a30 u30 h34_30 => ?_
  have F30 := F29.pt u30
  have h0_30 := u30.w (u29.w (u28.w (u27.w (u26.w (u25.w h0_24)))))
  refine st_p (ex_mv h0_30) F30.l fun a31 u31 h35_31 => ?_
  have F31 := F30.pt u31
  refine st_p (ex_nil h35_31) F31.l fun a32 u32 h36_32 => ?_
  have F32 := F31.pt u32
  refine st_p (ex_fb 2 h36_32) F32.l fun a33 u33 h37_33 => ?_
  have F33 := F32.pt u33
  refine st_p (ex_le (v := (.slice (some ⟨g, 0, none⟩) cap cap)) h37_33 (Bb_3.cell 2)) F33.l fun a34 u34 h38_34 => ?_
  have F34 := F33.pt u34
  have h0_34 := u34.w (u33.w (u32.w (u31.w h0_30)))
  refine st_p (ex_mv h0_34) F34.l fun a35 u35 h39_35 => ?_
  have F35 := F34.pt u35
  refine st_p (ex_nil h39_35) F35.l fun a36 u36 h40_36 => ?_
  have F36 := F35.pt u36
  refine st_p (ex_fb 13 h40_36) F36.l fun a37 u37 h41_37 => ?_
  have F37 := F36.pt u37
  refine st_p (ex_le (v := (.int .u64 cap)) h41_37 (Bb_3.cell 13)) F37.l fun a38 u38 h42_38 => ?_
  have F38 := F37.pt u38
  have h0_38 := u38.w (u37.w (u36.w (u35.w h0_34)))
  refine st_p (ex_mv h0_38) F38.l fun a39 u39 h43_39 => ?_
  have F39 := F38.pt u39
  refine st_p (ex_nil h43_39) F39.l fun a40 u40 h44_40 => ?_
  have F40 := F39.pt u40
  refine st_p (ex_fb 15 h44_40) F40.l fun a41 u41 h45_41 => ?_
  have F41 := F40.pt u41
  refine st_p (ex_le (v := (.int .u64 t)) h45_41 (Bb_3.cell 15)) F41.l fun a42 u42 h46_42 => ?_
  have F42 := F41.pt u42
  have h42_42 := u42.w (u41.w (u40.w (u39.w h42_38)))
  refine st_p (ex_bin (v := (.int .u64 (cap + t))) h42_42 h46_42 (bo_addu _ _ _ (by omega) (by omega))) F42.l fun a43 u43 h47_43 => ?_
  have F43 := F42.pt u43
  refine st_p (ex_bin (vy := (.int .u64 1)) (v := (.int .u64 (cap + t - 1))) h47_43 rfl (bo_subu _ _ _ (by omega) (by omega))) F43.l fun a44 u44 h48_44 => ?_
  have F44 := F43.pt u44
  have h0_44 := u44.w (u43.w (u42.w (u41.w (u40.w (u39.w h0_38)))))
  refine st_p (ex_mv h0_44) F44.l fun a45 u45 h49_45 => ?_
  have F45 := F44.pt u45
  refine st_p (ex_nil h49_45) F45.l fun a46 u46 h50_46 => ?_
  have F46 := F45.pt u46
  refine st_p (ex_fb 13 h50_46) F46.l fun a47 u47 h51_47 => ?_
  have F47 := F46.pt u47
  refine st_p (ex_le (v := (.int .u64 cap)) h51_47 (Bb_3.cell 13)) F47.l fun a48 u48 h52_48 => ?_
  have F48 := F47.pt u48
  have h48_48 := u48.w (u47.w (u46.w (u45.w h48_44)))
  refine st_p (ex_bin (v := (.int .u64 j)) h48_48 h52_48 ((bo_remu _ _ _ (by omega) (by omega) (by omega)).trans (by rw [show ((cap : Int) + t - 1) % cap = j from by rw [show (cap : Int) + t - 1 = j + cap from by omega, Int.add_emod_right]; exact Int.emod_eq_of_lt (by omega) (by omega)]))) F48.l fun a49 u49 h53_49 => ?_
  have F49 := F48.pt u49
  have h38_49 := u49.w (u48.w (u47.w (u46.w (u45.w (u44.w (u43.w (u42.w (u41.w (u40.w (u39.w (u38.w (u37.w (u36.w (u35.w h38_34))))))))))))))
  refine st_p (ex_ixg (vx := (.slice (some ⟨g, 0, none⟩) cap cap)) (vy := (.int .u64 j)) (v := (.pointer (some ⟨g, j, none⟩))) h38_49 h53_49 (ix_run g cap j (by omega) _)) F49.l fun a50 u50 h54_50 => ?_
  have F50 := F49.pt u50
  refine st_p (ex_le (v := pt v) h54_50 ((Bg_3.cell j).trans harr)) F50.l fun a51 u51 (h55_51 : a51.tmps.getD 55 undef = (.pointer (some ⟨v, 0, none⟩))) => ?_
  have F51 := F50.pt u51
  refine st_p (ex_nil h55_51) F51.l fun a52 u52 h56_52 => ?_
  have F52 := F51.pt u52
  refine st_p (ex_fb 0 h56_52) F52.l fun a53 u53 h57_53 => ?_
  have F53 := F52.pt u53
  refine st_p (ex_le (v := (.int .u64 num)) h57_53 (Bv_3.cell 0)) F53.l fun a54 u54 h58_54 => ?_
  have F54 := F53.pt u54
  refine st_p (ex_bin (vy := (.int .u64 1)) (v := (.int .u64 (num + 1))) h58_54 rfl (bo_add64 _ _ _ (by omega) (by omega))) F54.l fun a55 u55 h59_55 => ?_
  have F55 := F54.pt u55
  have h34_55 := u55.w (u54.w (u53.w (u52.w (u51.w (u50.w (u49.w (u48.w (u47.w (u46.w (u45.w (u44.w (u43.w (u42.w (u41.w (u40.w (u39.w (u38.w (u37.w (u36.w (u35.w (u34.w (u33.w (u32.w (u31.w h34_30))))))))))))))))))))))))
  refine st_p (ex_nil h34_55) F55.l fun a56 u56 h60_56 => ?_
  have F56 := F55.pt u56
  refine st_p (ex_fb 0 h60_56) F56.l fun a57 u57 h61_57 => ?_
  have F57 := F56.pt u57
  obtain ⟨w4, hr4, Bq_4, G4⟩ := st_run (T := 25) (o := 0) (v := (.int .u64 (num + 1))) (cs' := #[(.int .u64 (num + 1)), s1, s2, (.float .f64 y), s4, s5, s6, s7, s8, s9, s10]) (fun _ => by kernel_rfl) Bq_3 rfl (by simp) rfl
  have Bb_4 := Bb_3.gk G4 (Ne.symm hqb)
  have Bg_4 := Bg_3.gk G4 hgq
  have Bv_4 := Bv_3.gk G4 hvq
  have Kp4 := Kp3.set G4 (Or.inl (by simp))
  refine wl_n (ex_st h61_57 (u57.w (u56.w h59_55)) hr4) ?_
  change Code.wp _ _ _ _ _
  refine wp_seq ?_
  obtain ⟨w5, hw5⟩ : ∃ w, w = w4.drew := ⟨_, rfl⟩
  have G5 : w4.grownBy w5 none := hw5 ▸ grown_drew _
  have Bb_5 := Bb_4.gn G5
  have Bg_5 := Bg_4.gn G5
  have Bq_5 := Bq_4.gn G5
  have Bv_5 := Bv_4.gn G5
  have Kp5 := Kp4.new G5
  refine rg_stillt 10 hw5 hmix (by kernel_rfl) ?_
  have h0_57 := u57.w (u56.w (u55.w (u54.w (u53.w (u52.w (u51.w (u50.w (u49.w (u48.w (u47.w (u46.w (u45.w h0_44))))))))))))
  refine st_p (ex_mv h0_57) F57.l fun a58 u58 h62_58 => ?_
  have F58 := F57.pt u58
  refine st_p (ex_nil h62_58) F58.l fun a59 u59 h63_59 => ?_
  have F59 := F58.pt u59
  refine st_p (ex_fb 2 h63_59) F59.l fun a60 u60 h64_60 => ?_
  have F60 := F59.pt u60
  refine st_p (ex_le (v := (.slice (some ⟨g, 0, none⟩) cap cap)) h64_60 (Bb_5.cell 2)) F60.l fun a61 u61 h65_61 => ?_
  have F61 := F60.pt u61
  have h0_61 := u61.w (u60.w (u59.w (u58.w h0_57)))
  refine st_p (ex_mv h0_61) F61.l fun a62 u62 h66_62 => ?_
  have F62 := F61.pt u62
  refine st_p (ex_nil h66_62) F62.l fun a63 u63 h67_63 => ?_
  have F63 := F62.pt u63
  refine st_p (ex_fb 15 h67_63) F63.l fun a64 u64 h68_64 => ?_
  have F64 := F63.pt u64
  refine st_p (ex_le (v := (.int .u64 t)) h68_64 (Bb_5.cell 15)) F64.l fun a65 u65 h69_65 => ?_
  have F65 := F64.pt u65
  have h1_65 := u65.w (u64.w (u63.w (u62.w (u61.w (u60.w (u59.w (u58.w (u57.w (u56.w (u55.w (u54.w (u53.w (u52.w (u51.w (u50.w (u49.w (u48.w (u47.w (u46.w (u45.w (u44.w (u43.w (u42.w (u41.w (u40.w (u39.w (u38.w (u37.w (u36.w (u35.w (u34.w (u33.w (u32.w (u31.w (u30.w h1_29)))))))))))))))))))))))))))))))))))
  refine st_p (ex_mv h1_65) F65.l fun a66 u66 h70_66 => ?_
  have F66 := F65.pt u66
  have h65_66 := u66.w (u65.w (u64.w (u63.w (u62.w h65_61))))
  refine st_p (ex_ixg (vx := (.slice (some ⟨g, 0, none⟩) cap cap)) (vy := (.int .u64 t)) (v := (.pointer (some ⟨g, t, none⟩))) h65_66 (u66.w h69_65) (ix_run g cap t (by omega) _)) F66.l fun a67 u67 h71_67 => ?_
  have F67 := F66.pt u67
  obtain ⟨w6, hr6, Bg_6, G6⟩ := st_run (T := 74) (o := t) (v := (.pointer (some ⟨q, 0, none⟩))) (cs' := (arr.setIfInBounds t (.pointer (some ⟨q, 0, none⟩)))) (fun _ => by kernel_rfl) Bg_5 rfl (hin) rfl
  have Bb_6 := Bb_5.gk G6 (Ne.symm hgb)
  have Bq_6 := Bq_5.gk G6 (Ne.symm hgq)
  have Bv_6 := Bv_5.gk G6 (Ne.symm hgv)
  have Kp6 := Kp5.set G6 (Or.inl (by simp))
  refine wl_n (ex_st h71_67 (u67.w h70_66) hr6) ?_
  change Code.wp _ _ _ _ _
  refine wp_seq ?_
  obtain ⟨w7, hw7⟩ : ∃ w, w = w6.drew := ⟨_, rfl⟩
  have G7 : w6.grownBy w7 none := hw7 ▸ grown_drew _
  have Bb_7 := Bb_6.gn G7
  have Bg_7 := Bg_6.gn G7
  have Bq_7 := Bq_6.gn G7
  have Bv_7 := Bv_6.gn G7
  have Kp7 := Kp6.new G7
  refine rg_stillt 13 hw7 hmix (by kernel_rfl) ?_
  have h0_67 := u67.w (u66.w (u65.w (u64.w (u63.w (u62.w h0_61)))))
  refine st_p (ex_mv h0_67) F67.l fun a68 u68 h72_68 => ?_
  have F68 := F67.pt u68
  refine st_p (ex_mv (u68.w h0_67)) F68.l fun a69 u69 h73_69 => ?_
  have F69 := F68.pt u69
  refine st_p (ex_nil h73_69) F69.l fun a70 u70 h74_70 => ?_
  have F70 := F69.pt u70
  refine st_p (ex_fb 15 h74_70) F70.l fun a71 u71 h75_71 => ?_
  have F71 := F70.pt u71
  refine st_p (ex_le (v := (.int .u64 t)) h75_71 (Bb_7.cell 15)) F71.l fun a72 u72 h76_72 => ?_
  have F72 := F71.pt u72
  refine st_p (ex_bin (vy := (.int .u64 1)) (v := (.int .u64 (t + 1))) h76_72 rfl (bo_addu _ _ _ (by omega) (by omega))) F72.l fun a73 u73 h77_73 => ?_
  have F73 := F72.pt u73
  have h0_73 := u73.w (u72.w (u71.w (u70.w (u69.w (u68.w h0_67)))))
  refine st_p (ex_mv h0_73) F73.l fun a74 u74 h78_74 => ?_
  have F74 := F73.pt u74
  refine st_p (ex_nil h78_74) F74.l fun a75 u75 h79_75 => ?_
  have F75 := F74.pt u75
  refine st_p (ex_fb 13 h79_75) F75.l fun a76 u76 h80_76 => ?_
  have F76 := F75.pt u76
  refine st_p (ex_le (v := (.int .u64 cap)) h80_76 (Bb_7.cell 13)) F76.l fun a77 u77 h81_77 => ?_
  have F77 := F76.pt u77
  have h77_77 := u77.w (u76.w (u75.w (u74.w h77_73)))
  refine st_p (ex_bin (v := (.int .u64 ((t + 1) % cap))) h77_77 h81_77 (bo_remu _ _ _ (by omega) (by omega) (by omega))) F77.l fun a78 u78 h82_78 => ?_
  have F78 := F77.pt u78
  have h72_78 := u78.w (u77.w (u76.w (u75.w (u74.w (u73.w (u72.w (u71.w (u70.w (u69.w h72_68)))))))))
  refine st_p (ex_nil h72_78) F78.l fun a79 u79 h83_79 => ?_
  have F79 := F78.pt u79
  refine st_p (ex_fb 15 h83_79) F79.l fun a80 u80 h84_80 => ?_
  have F80 := F79.pt u80
  obtain ⟨w8, hr8, Bb_8, G8⟩ := st_run (T := 50) (o := 15) (v := (.int .u64 ((t + 1) % cap))) (cs' := #[(.float .f64 x), (.int .u64 seq), (.slice (some ⟨g, 0, none⟩) cap cap), c3, c4, c5, c6, c7, c8, c9, c10, c11, c12, (.int .u64 cap), (.int .u64 0), (.int .u64 ((t + 1) % cap)), (.int .u64 t), (.slice none 0 0), (.int .i64 0), (.int .i8 0), c20, c21, c22]) (fun _ => by kernel_rfl) Bb_7 rfl (by simp) rfl
  have Bg_8 := Bg_7.gk G8 hgb
  have Bq_8 := Bq_7.gk G8 hqb
  have Bv_8 := Bv_7.gk G8 hvb
  have Kp8 := Kp7.set G8 (Or.inl (by simp))
  refine wl_n (ex_st h84_80 (u80.w (u79.w h82_78)) hr8) ?_
  change Code.wp _ _ _ _ _
  refine wp_seq ?_
  refine rg_list ?_
  have h0_80 := u80.w (u79.w (u78.w (u77.w (u76.w (u75.w (u74.w h0_73))))))
  refine wl_p (ex_mv h0_80) F80.l fun a81 u81 h85_81 => ?_
  have F81 := F80.pt u81
  refine wl_p (ex_nil h85_81) F81.l fun a82 u82 h86_82 => ?_
  have F82 := F81.pt u82
  refine wl_p (ex_fb 16 h86_82) F82.l fun a83 u83 h87_83 => ?_
  have F83 := F82.pt u83
  refine wl_p (ex_le (v := (.int .u64 t)) h87_83 (Bb_8.cell 16)) F83.l fun a84 u84 h88_84 => ?_
  have F84 := F83.pt u84
  refine wl_p (ex_bin (vy := (.int .u64 1)) (v := (.int .u64 (t + 1))) h88_84 rfl (bo_addu _ _ _ (by omega) (by omega))) F84.l fun a85 u85 h89_85 => ?_
  have F85 := F84.pt u85
  have h85_85 := u85.w (u84.w (u83.w (u82.w h85_81)))
  refine wl_p (ex_nil h85_85) F85.l fun a86 u86 h90_86 => ?_
  have F86 := F85.pt u86
  refine wl_p (ex_fb 16 h90_86) F86.l fun a87 u87 h91_87 => ?_
  have F87 := F86.pt u87
  obtain ⟨w9, hr9, Bb_9, G9⟩ := st_run (T := 50) (o := 16) (v := (.int .u64 (t + 1))) (cs' := #[(.float .f64 x), (.int .u64 seq), (.slice (some ⟨g, 0, none⟩) cap cap), c3, c4, c5, c6, c7, c8, c9, c10, c11, c12, (.int .u64 cap), (.int .u64 0), (.int .u64 ((t + 1) % cap)), (.int .u64 (t + 1)), (.slice none 0 0), (.int .i64 0), (.int .i8 0), c20, c21, c22]) (fun _ => by kernel_rfl) Bb_8 rfl (by simp) rfl
  have Bg_9 := Bg_8.gk G9 hgb
  have Bq_9 := Bq_8.gk G9 hqb
  have Bv_9 := Bv_8.gk G9 hvb
  have Kp9 := Kp8.set G9 (Or.inl (by simp))
  refine wl_n (ex_st h91_87 (u87.w (u86.w h89_85)) hr9) ?_
  change Code.wp _ _ _ _ _
  refine wp_seq ?_
  refine wp_seq ?_
  obtain ⟨w10, hw10⟩ : ∃ w, w = w9.drew := ⟨_, rfl⟩
  have G10 : w9.grownBy w10 none := hw10 ▸ grown_drew _
  have Bb_10 := Bb_9.gn G10
  have Bg_10 := Bg_9.gn G10
  have Bq_10 := Bq_9.gn G10
  have Bv_10 := Bv_9.gn G10
  have Kp10 := Kp9.new G10
  refine rg_still hw10 hmix (by kernel_rfl) ?_
  have h0_87 := u87.w (u86.w (u85.w (u84.w (u83.w (u82.w (u81.w h0_80))))))
  refine st_p (ex_mv h0_87) F87.l fun a88 u88 h92_88 => ?_
  have F88 := F87.pt u88
  refine st_p (ex_nil h92_88) F88.l fun a89 u89 h93_89 => ?_
  have F89 := F88.pt u89
  refine st_p (ex_fb 0 h93_89) F89.l fun a90 u90 h94_90 => ?_
  have F90 := F89.pt u90
  refine st_p (ex_le (v := (.float .f64 x)) h94_90 (Bb_10.cell 0)) F90.l fun a91 u91 h95_91 => ?_
  have F91 := F90.pt u91
  have h1_91 := u91.w (u90.w (u89.w (u88.w (u87.w (u86.w (u85.w (u84.w (u83.w (u82.w (u81.w (u80.w (u79.w (u78.w (u77.w (u76.w (u75.w (u74.w (u73.w (u72.w (u71.w (u70.w (u69.w (u68.w (u67.w (u66.w h1_65)))))))))))))))))))))))))
  refine st_p (ex_mv h1_91) F91.l fun a92 u92 h96_92 => ?_
  have F92 := F91.pt u92
  refine st_p (ex_nil h96_92) F92.l fun a93 u93 h97_93 => ?_
  have F93 := F92.pt u93
  refine st_p (ex_fb 3 h97_93) F93.l fun a94 u94 h98_94 => ?_
  have F94 := F93.pt u94
  refine st_p (ex_le (v := (.float .f64 y)) h98_94 (Bq_10.cell 3)) F94.l fun a95 u95 h99_95 => ?_
  have F95 := F94.pt u95
  have h95_95 := u95.w (u94.w (u93.w (u92.w h95_91)))
  refine st_p (ex_bin (v := (.bool false)) h95_95 h99_95 ((bo_lssf _ _ _).trans (by rw [hord]))) F95.l fun a96 u96 h100_96 => ?_
  have F96 := F95.pt u96
  change Code.wp _ _ _ _ _
  refine wp_cond_false h100_96 ?_
  refine wp_skip ?_
  change Code.wp _ _ _ _ _
  refine wp_seq ?_
  refine rg_list ?_
  have h0_96 := u96.w (u95.w (u94.w (u93.w (u92.w (u91.w (u90.w (u89.w (u88.w h0_87))))))))
  refine wl_p (ex_mv h0_96) F96.l fun a97 u97 h109_97 => ?_
  have F97 := F96.pt u97
  refine wl_p (ex_nil h109_97) F97.l fun a98 u98 h110_98 => ?_
  have F98 := F97.pt u98
  refine wl_p (ex_fb 17 h110_98) F98.l fun a99 u99 h111_99 => ?_
  have F99 := F98.pt u99
  refine wl_cl (args := #[(.pointer (some ⟨b, 17, none⟩))]) (R := fun v w' => v = (.tuple #[]) ∧ (Blk w' b 70 #[(.float .f64 x), (.int .u64 seq), (.slice (some ⟨g, 0, none⟩) cap cap), c3, c4, c5, c6, c7, c8, c9, c10, c11, c12, (.int .u64 cap), (.int .u64 0), (.int .u64 ((t + 1) % cap)), (.int .u64 (t + 1)), (.slice none 0 0), (.int .i64 0), (.int .i8 0), c20, c21, c22] ∧ w10.grownBy w' (some b))) (ex_cl (fun _ _ => by kernel_rfl) (arg1 h111_99)) ((reset17 Bb_10).mono fun _ _ h => ⟨_, h.1, rfl, h.2⟩) F99.l ?_
  rintro v w11 ⟨rfl, Bb_11, G11⟩
  have Bg_11 := Bg_10.gk G11 hgb
  have Bq_11 := Bq_10.gk G11 hqb
  have Bv_11 := Bv_10.gk G11 hvb
  have Kp11 := Kp10.set G11 (Or.inl (by simp))
  intro a100 u100 h112_100
  have F100 := F99.pt u100
  change Code.wp _ _ _ _ _
  refine wp_seq ?_
  refine rg_list ?_
  refine wl_p (ex_as (v := .nilIface) rfl) F100.l fun a101 u101 h4_101 => ?_
  have F101 := F100.pt u101
  change Code.wp _ _ _ _ _
  refine wp_ret ?_
  try simp only [Exit.then, Exit.inBlock]
  exact bodyPost_ret (v := .nilIface) ((results_tmp rfl _ _ _).trans (by rw [h4_101])) F101.defers ⟨rfl, Bb_11, Bg_11, Bq_11, Kp11⟩
theorem app_more_up {b g q cap seq x y t j v num : Nat} {arr : Array Value} {c3 c4 c5 c6 c7 c8 c9 c10 c11 c12 c20 c21 c22 s0 s1 s2 s4 s5 s6 s7 s8 s9 s10 : Value} {w0 : World} (hb : Blk w0 b 70 #[(.float .f64 x), (.int .u64 seq), (.slice (some ⟨g, 0, none⟩) cap cap), c3, c4, c5, c6, c7, c8, c9, c10, c11, c12, (.int .u64 cap), (.int .u64 0), (.int .u64 t), (.int .u64 t), (.slice none 0 0), (.int .i64 0), (.int .i8 0), c20, c21, c22]) (hg : Blk w0 g 74 arr) (hq : Blk w0 q 96 #[s0, s1, s2, (.float .f64 y), s4, s5, s6, s7, s8, s9, s10]) (hgb : g ≠ b) (hqb : q ≠ b) (hgq : g ≠ q) (hc0 : 0 < cap) (hc1 : cap ≤ 1024) {v1 v2 v3 v4 v5 v6 v7 v8 v9 v10 : Value} (hv : Blk w0 v 96 #[(.int .u64 num), v1, v2, v3, v4, v5, v6, v7, v8, v9, v10]) (hvb : v ≠ b) (hvq : v ≠ q) (hgv : g ≠ v) (htj : t = j + 1) (htc : t < cap) (hin : t < arr.size) (harr : arr[j]? = some (pt v)) (hnum : num < 18446744073709551615) (hord : (FloatKind.f64.format.order x y == some .lt) = true) (hn : isNaN y = false) :
    Calls Tryz.prog 15 #[pt b, pt q] w0 fun e w' => e = .returned .nilIface ∧ Blk w' b 70 #[(.float .f64 (fceil y)), (.int .u64 seq), (.slice (some ⟨g, 0, none⟩) cap cap), c3, c4, c5, c6, c7, c8, c9, c10, c11, c12, (.int .u64 cap), (.int .u64 0), (.int .u64 ((t + 1) % cap)), (.int .u64 (t + 1)), (.slice none 0 0), (.int .i64 0), (.int .i8 0), c20, c21, c22] ∧ Blk w' g 74 (arr.setIfInBounds t (.pointer (some ⟨q, 0, none⟩))) ∧ Blk w' q 96 #[(.int .u64 (num + 1)), s1, s2, (.float .f64 y), s4, s5, s6, s7, s8, s9, s10] ∧ Kp [b, g, q] w0 w' := by
  refine calls_of_wp Tryz.func15 rfl ?_
  generalize hA : Act.mk _ _ = a0
  have F0 : Fz 113 a0 := by subst hA; exact ⟨by simp [Tryz.ntmps15], rfl⟩
  have h0_0 : a0.tmps.getD 0 undef = (.pointer (some ⟨b, 0, none⟩)) := by subst hA; exact fr_arg rfl
  have h1_0 : a0.tmps.getD 1 undef = (.pointer (some ⟨q, 0, none⟩)) := by subst hA; exact fr_arg rfl
  clear hA
  have Kp0 := Kp.refl [b, g, q] w0
  refine wp_seq ?_
  refine rg_list ?_
  refine wl_p (ex_as (v := .nilIface) rfl) F0.l fun a1 u1 h4_1 => ?_
  have F1 := F0.pt u1
  change Code.wp _ _ _ _ _
  refine wp_seq ?_
  refine wp_seq ?_
  obtain ⟨w1, hw1⟩ : ∃ w, w = w0.drew := ⟨_, rfl⟩
  have G1 : w0.grownBy w1 none := hw1 ▸ grown_drew _
  have Bb_1 := hb.gn G1
  have Bg_1 := hg.gn G1
  have Bq_1 := hq.gn G1
  have Bv_1 := hv.gn G1
  have Kp1 := Kp0.new G1
  refine rg_still hw1 hmix (by kernel_rfl) ?_
  clear hb hg hq hv
  refine st_p (ex_mv (u1.w h0_0)) F1.l fun a2 u2 h5_2 => ?_
  have F2 := F1.pt u2
  refine st_p (ex_nil h5_2) F2.l fun a3 u3 h6_3 => ?_
  have F3 := F2.pt u3
  refine st_p (ex_fb 14 h6_3) F3.l fun a4 u4 h7_4 => ?_
  have F4 := F3.pt u4
  refine st_p (ex_le (v := (.int .u64 0)) h7_4 (Bb_1.cell 14)) F4.l fun a5 u5 h8_5 => ?_
  have F5 := F4.pt u5
  have h0_5 := u5.w (u4.w (u3.w (u2.w (u1.w h0_0))))
  refine st_p (ex_mv h0_5) F5.l fun a6 u6 h9_6 => ?_
  have F6 := F5.pt u6
  refine st_p (ex_nil h9_6) F6.l fun a7 u7 h10_7 => ?_
  have F7 := F6.pt u7
  refine st_p (ex_fb 15 h10_7) F7.l fun a8 u8 h11_8 => ?_
  have F8 := F7.pt u8
  refine st_p (ex_le (v := (.int .u64 t)) h11_8 (Bb_1.cell 15)) F8.l fun a9 u9 h12_9 => ?_
  have F9 := F8.pt u9
  have h8_9 := u9.w (u8.w (u7.w (u6.w h8_5)))
  refine st_p (ex_bin (v := (.bool false)) h8_9 h12_9 ((bo_eqlu _ _ _).trans (by rw [show ((0 : Int) == (t : Int)) = false from by simp; omega]))) F9.l fun a10 u10 h13_10 => ?_
  have F10 := F9.pt u10
  refine st_p (ex_mv h13_10) F10.l fun a11 u11 h14_11 => ?_
  have F11 := F10.pt u11
  refine st_k (yl (e := 14) rfl h14_11) (by decide) F11.l fun a12 u12 h15_12 => ?_
  have F12 := F11.pt u12
  refine st_k (yl (e := 14) rfl (u12.w h14_11)) (by decide) F12.l fun a13 u13 h16_13 => ?_
  have F13 := F12.pt u13
  refine st_k (yl (e := 14) rfl (u13.w (u12.w h14_11))) (by decide) F13.l fun a14 u14 h17_14 => ?_
  have F14 := F13.pt u14
  have h14_14 := u14.w (u13.w (u12.w h14_11))
  refine st_k (yl (e := 14) rfl h14_14) (by decide) F14.l fun a15 u15 h18_15 => ?_
  have F15 := F14.pt u15
  refine st_k (yl (e := 14) rfl (u15.w h14_14)) (by decide) F15.l fun a16 u16 h19_16 => ?_
  have F16 := F15.pt u16
  refine st_p (ex_pick (q := false) (v := (.bool false)) (u16.w (u15.w h14_14)) rfl) F16.l fun a17 u17 h20_17 => ?_
  have F17 := F16.pt u17
  change Code.wp _ _ _ _ _
  refine wp_cond_false h20_17 ?_
  refine wp_skip ?_
  change Code.wp _ _ _ _ _
  refine wp_seq ?_
  refine rg_list ?_
  have h1_17 := u17.w (u16.w (u15.w (u14.w (u13.w (u12.w (u11.w (u10.w (u9.w (u8.w (u7.w (u6.w (u5.w (u4.w (u3.w (u2.w (u1.w h1_0))))))))))))))))
  refine wl_p (ex_mv h1_17) F17.l fun a18 u18 h22_18 => ?_
  have F18 := F17.pt u18
  have h0_18 := u18.w (u17.w (u16.w (u15.w (u14.w (u13.w (u12.w (u11.w (u10.w (u9.w (u8.w (u7.w (u6.w h0_5))))))))))))
  refine wl_p (ex_mv h0_18) F18.l fun a19 u19 h23_19 => ?_
  have F19 := F18.pt u19
  refine wl_p (ex_nil h23_19) F19.l fun a20 u20 h24_20 => ?_
  have F20 := F19.pt u20
  refine wl_p (ex_fb 1 h24_20) F20.l fun a21 u21 h25_21 => ?_
  have F21 := F20.pt u21
  refine wl_p (ex_le (v := (.int .u64 seq)) h25_21 (Bb_1.cell 1)) F21.l fun a22 u22 h26_22 => ?_
  have F22 := F21.pt u22
  have h22_22 := u22.w (u21.w (u20.w (u19.w h22_18)))
  refine wl_p (ex_nil h22_22) F22.l fun a23 u23 h27_23 => ?_
  have F23 := F22.pt u23
  refine wl_p (ex_fb 0 h27_23) F23.l fun a24 u24 h28_24 => ?_
  have F24 := F23.pt u24
  obtain ⟨w2, hr2, Bq_2, G2⟩ := st_run (T := 25) (o := 0) (v := (.int .u64 seq)) (cs' := #[(.int .u64 seq), s1, s2, (.float .f64 y), s4, s5, s6, s7, s8, s9, s10]) (fun _ => by kernel_rfl) Bq_1 rfl (by simp) rfl
  have Bb_2 := Bb_1.gk G2 (Ne.symm hqb)
  have Bg_2 := Bg_1.gk G2 hgq
  have Bv_2 := Bv_1.gk G2 hvq
  have Kp2 := Kp1.set G2 (Or.inl (by simp))
  refine wl_n (ex_st h28_24 (u24.w (u23.w h26_22)) hr2) ?_
  change Code.wp _ _ _ _ _
  refine wp_seq ?_
  refine wp_seq ?_
  refine rg_list ?_
  have h0_24 := u24.w (u23.w (u22.w (u21.w (u20.w (u19.w h0_18)))))
  refine wl_p (ex_mv h0_24) F24.l fun a25 u25 h29_25 => ?_
  have F25 := F24.pt u25
  refine wl_p (ex_nil h29_25) F25.l fun a26 u26 h30_26 => ?_
  have F26 := F25.pt u26
  refine wl_p (ex_fb 16 h30_26) F26.l fun a27 u27 h31_27 => ?_
  have F27 := F26.pt u27
  refine wl_p (ex_le (v := (.int .u64 t)) h31_27 (Bb_2.cell 16)) F27.l fun a28 u28 h32_28 => ?_
  have F28 := F27.pt u28
  refine wl_p (ex_bin (vy := (.int .u64 0)) (v := (.bool true)) h32_28 rfl ((bo_gtru _ _ _).trans (by rw [decide_eq_true (by omega)]))) F28.l fun a29 u29 h33_29 => ?_
  have F29 := F28.pt u29
  change Code.wp _ _ _ _ _
  refine wp_cond_true h33_29 ?_
  obtain ⟨w3, hw3⟩ : ∃ w, w = w2.drew := ⟨_, rfl⟩
  have G3 : w2.grownBy w3 none := hw3 ▸ grown_drew _
  have Bb_3 := Bb_2.gn G3
  have Bg_3 := Bg_2.gn G3
  have Bq_3 := Bq_2.gn G3
  have Bv_3 := Bv_2.gn G3
  have Kp3 := Kp2.new G3
  refine rg_stillt 28 hw3 hmix (by kernel_rfl) ?_
  have h1_29 := u29.w (u28.w (u27.w (u26.w (u25.w (u24.w (u23.w (u22.w (u21.w (u20.w (u19.w (u18.w h1_17)))))))))))
  refine st_p (ex_mv h1_29) F29.l fun a30 u30 h34_30 => ?_
  have F30 := F29.pt u30
  have h0_30 := u30.w (u29.w (u28.w (u27.w (u26.w (u25.w h0_24)))))
  refine st_p (ex_mv h0_30) F30.l fun a31 u31 h35_31 => ?_
  have F31 := F30.pt u31
  refine st_p (ex_nil h35_31) F31.l fun a32 u32 h36_32 => ?_
  have F32 := F31.pt u32
  refine st_p (ex_fb 2 h36_32) F32.l fun a33 u33 h37_33 => ?_
  have F33 := F32.pt u33
  refine st_p (ex_le (v := (.slice (some ⟨g, 0, none⟩) cap cap)) h37_33 (Bb_3.cell 2)) F33.l fun a34 u34 h38_34 => ?_
  have F34 := F33.pt u34
  have h0_34 := u34.w (u33.w (u32.w (u31.w h0_30)))
  refine st_p (ex_mv h0_34) F34.l fun a35 u35 h39_35 => ?_
  have F35 := F34.pt u35
  refine st_p (ex_nil h39_35) F35.l fun a36 u36 h40_36 => ?_
  have F36 := F35.pt u36
  refine st_p (ex_fb 13 h40_36) F36.l fun a37 u37 h41_37 => ?_
  have F37 := F36.pt u37
  refine st_p (ex_le (v := (.int .u64 cap)) h41_37 (Bb_3.cell 13)) F37.l fun a38 u38 h42_38 => ?_
  have F38 := F37.pt u38
  have h0_38 := u38.w (u37.w (u36.w (u35.w h0_34)))
  refine st_p (ex_mv h0_38) F38.l fun a39 u39 h43_39 => ?_
  have F39 := F38.pt u39
  refine st_p (ex_nil h43_39) F39.l fun a40 u40 h44_40 => ?_
  have F40 := F39.pt u40
  refine st_p (ex_fb 15 h44_40) F40.l fun a41 u41 h45_41 => ?_
  have F41 := F40.pt u41
  refine st_p (ex_le (v := (.int .u64 t)) h45_41 (Bb_3.cell 15)) F41.l fun a42 u42 h46_42 => ?_
  have F42 := F41.pt u42
  have h42_42 := u42.w (u41.w (u40.w (u39.w h42_38)))
  refine st_p (ex_bin (v := (.int .u64 (cap + t))) h42_42 h46_42 (bo_addu _ _ _ (by omega) (by omega))) F42.l fun a43 u43 h47_43 => ?_
  have F43 := F42.pt u43
  refine st_p (ex_bin (vy := (.int .u64 1)) (v := (.int .u64 (cap + t - 1))) h47_43 rfl (bo_subu _ _ _ (by omega) (by omega))) F43.l fun a44 u44 h48_44 => ?_
  have F44 := F43.pt u44
  have h0_44 := u44.w (u43.w (u42.w (u41.w (u40.w (u39.w h0_38)))))
  refine st_p (ex_mv h0_44) F44.l fun a45 u45 h49_45 => ?_
  have F45 := F44.pt u45
  refine st_p (ex_nil h49_45) F45.l fun a46 u46 h50_46 => ?_
  have F46 := F45.pt u46
  refine st_p (ex_fb 13 h50_46) F46.l fun a47 u47 h51_47 => ?_
  have F47 := F46.pt u47
  refine st_p (ex_le (v := (.int .u64 cap)) h51_47 (Bb_3.cell 13)) F47.l fun a48 u48 h52_48 => ?_
  have F48 := F47.pt u48
  have h48_48 := u48.w (u47.w (u46.w (u45.w h48_44)))
  refine st_p (ex_bin (v := (.int .u64 j)) h48_48 h52_48 ((bo_remu _ _ _ (by omega) (by omega) (by omega)).trans (by rw [show ((cap : Int) + t - 1) % cap = j from by rw [show (cap : Int) + t - 1 = j + cap from by omega, Int.add_emod_right]; exact Int.emod_eq_of_lt (by omega) (by omega)]))) F48.l fun a49 u49 h53_49 => ?_
  have F49 := F48.pt u49
  have h38_49 := u49.w (u48.w (u47.w (u46.w (u45.w (u44.w (u43.w (u42.w (u41.w (u40.w (u39.w (u38.w (u37.w (u36.w (u35.w h38_34))))))))))))))
  refine st_p (ex_ixg (vx := (.slice (some ⟨g, 0, none⟩) cap cap)) (vy := (.int .u64 j)) (v := (.pointer (some ⟨g, j, none⟩))) h38_49 h53_49 (ix_run g cap j (by omega) _)) F49.l fun a50 u50 h54_50 => ?_
  have F50 := F49.pt u50
  refine st_p (ex_le (v := pt v) h54_50 ((Bg_3.cell j).trans harr)) F50.l fun a51 u51 (h55_51 : a51.tmps.getD 55 undef = (.pointer (some ⟨v, 0, none⟩))) => ?_
  have F51 := F50.pt u51
  refine st_p (ex_nil h55_51) F51.l fun a52 u52 h56_52 => ?_
  have F52 := F51.pt u52
  refine st_p (ex_fb 0 h56_52) F52.l fun a53 u53 h57_53 => ?_
  have F53 := F52.pt u53
  refine st_p (ex_le (v := (.int .u64 num)) h57_53 (Bv_3.cell 0)) F53.l fun a54 u54 h58_54 => ?_
  have F54 := F53.pt u54
  refine st_p (ex_bin (vy := (.int .u64 1)) (v := (.int .u64 (num + 1))) h58_54 rfl (bo_add64 _ _ _ (by omega) (by omega))) F54.l fun a55 u55 h59_55 => ?_
  have F55 := F54.pt u55
  have h34_55 := u55.w (u54.w (u53.w (u52.w (u51.w (u50.w (u49.w (u48.w (u47.w (u46.w (u45.w (u44.w (u43.w (u42.w (u41.w (u40.w (u39.w (u38.w (u37.w (u36.w (u35.w (u34.w (u33.w (u32.w (u31.w h34_30))))))))))))))))))))))))
  refine st_p (ex_nil h34_55) F55.l fun a56 u56 h60_56 => ?_
  have F56 := F55.pt u56
  refine st_p (ex_fb 0 h60_56) F56.l fun a57 u57 h61_57 => ?_
  have F57 := F56.pt u57
  obtain ⟨w4, hr4, Bq_4, G4⟩ := st_run (T := 25) (o := 0) (v := (.int .u64 (num + 1))) (cs' := #[(.int .u64 (num + 1)), s1, s2, (.float .f64 y), s4, s5, s6, s7, s8, s9, s10]) (fun _ => by kernel_rfl) Bq_3 rfl (by simp) rfl
  have Bb_4 := Bb_3.gk G4 (Ne.symm hqb)
  have Bg_4 := Bg_3.gk G4 hgq
  have Bv_4 := Bv_3.gk G4 hvq
  have Kp4 := Kp3.set G4 (Or.inl (by simp))
  refine wl_n (ex_st h61_57 (u57.w (u56.w h59_55)) hr4) ?_
  change Code.wp _ _ _ _ _
  refine wp_seq ?_
  obtain ⟨w5, hw5⟩ : ∃ w, w = w4.drew := ⟨_, rfl⟩
  have G5 : w4.grownBy w5 none := hw5 ▸ grown_drew _
  have Bb_5 := Bb_4.gn G5
  have Bg_5 := Bg_4.gn G5
  have Bq_5 := Bq_4.gn G5
  have Bv_5 := Bv_4.gn G5
  have Kp5 := Kp4.new G5
  refine rg_stillt 10 hw5 hmix (by kernel_rfl) ?_
  have h0_57 := u57.w (u56.w (u55.w (u54.w (u53.w (u52.w (u51.w (u50.w (u49.w (u48.w (u47.w (u46.w (u45.w h0_44))))))))))))
  refine st_p (ex_mv h0_57) F57.l fun a58 u58 h62_58 => ?_
  have F58 := F57.pt u58
  refine st_p (ex_nil h62_58) F58.l fun a59 u59 h63_59 => ?_
  have F59 := F58.pt u59
  refine st_p (ex_fb 2 h63_59) F59.l fun a60 u60 h64_60 => ?_
  have F60 := F59.pt u60
  refine st_p (ex_le (v := (.slice (some ⟨g, 0, none⟩) cap cap)) h64_60 (Bb_5.cell 2)) F60.l fun a61 u61 h65_61 => ?_
  have F61 := F60.pt u61
  have h0_61 := u61.w (u60.w (u59.w (u58.w h0_57)))
  refine st_p (ex_mv h0_61) F61.l fun a62 u62 h66_62 => ?_
  have F62 := F61.pt u62
  refine st_p (ex_nil h66_62) F62.l fun a63 u63 h67_63 => ?_
  have F63 := F62.pt u63
  refine st_p (ex_fb 15 h67_63) F63.l fun a64 u64 h68_64 => ?_
  have F64 := F63.pt u64
  refine st_p (ex_le (v := (.int .u64 t)) h68_64 (Bb_5.cell 15)) F64.l fun a65 u65 h69_65 => ?_
  have F65 := F64.pt u65
  have h1_65 := u65.w (u64.w (u63.w (u62.w (u61.w (u60.w (u59.w (u58.w (u57.w (u56.w (u55.w (u54.w (u53.w (u52.w (u51.w (u50.w (u49.w (u48.w (u47.w (u46.w (u45.w (u44.w (u43.w (u42.w (u41.w (u40.w (u39.w (u38.w (u37.w (u36.w (u35.w (u34.w (u33.w (u32.w (u31.w (u30.w h1_29)))))))))))))))))))))))))))))))))))
  refine st_p (ex_mv h1_65) F65.l fun a66 u66 h70_66 => ?_
  have F66 := F65.pt u66
  have h65_66 := u66.w (u65.w (u64.w (u63.w (u62.w h65_61))))
  refine st_p (ex_ixg (vx := (.slice (some ⟨g, 0, none⟩) cap cap)) (vy := (.int .u64 t)) (v := (.pointer (some ⟨g, t, none⟩))) h65_66 (u66.w h69_65) (ix_run g cap t (by omega) _)) F66.l fun a67 u67 h71_67 => ?_
  have F67 := F66.pt u67
  obtain ⟨w6, hr6, Bg_6, G6⟩ := st_run (T := 74) (o := t) (v := (.pointer (some ⟨q, 0, none⟩))) (cs' := (arr.setIfInBounds t (.pointer (some ⟨q, 0, none⟩)))) (fun _ => by kernel_rfl) Bg_5 rfl (hin) rfl
  have Bb_6 := Bb_5.gk G6 (Ne.symm hgb)
  have Bq_6 := Bq_5.gk G6 (Ne.symm hgq)
  have Bv_6 := Bv_5.gk G6 (Ne.symm hgv)
  have Kp6 := Kp5.set G6 (Or.inl (by simp))
  refine wl_n (ex_st h71_67 (u67.w h70_66) hr6) ?_
  change Code.wp _ _ _ _ _
  refine wp_seq ?_
  obtain ⟨w7, hw7⟩ : ∃ w, w = w6.drew := ⟨_, rfl⟩
  have G7 : w6.grownBy w7 none := hw7 ▸ grown_drew _
  have Bb_7 := Bb_6.gn G7
  have Bg_7 := Bg_6.gn G7
  have Bq_7 := Bq_6.gn G7
  have Bv_7 := Bv_6.gn G7
  have Kp7 := Kp6.new G7
  refine rg_stillt 13 hw7 hmix (by kernel_rfl) ?_
  have h0_67 := u67.w (u66.w (u65.w (u64.w (u63.w (u62.w h0_61)))))
  refine st_p (ex_mv h0_67) F67.l fun a68 u68 h72_68 => ?_
  have F68 := F67.pt u68
  refine st_p (ex_mv (u68.w h0_67)) F68.l fun a69 u69 h73_69 => ?_
  have F69 := F68.pt u69
  refine st_p (ex_nil h73_69) F69.l fun a70 u70 h74_70 => ?_
  have F70 := F69.pt u70
  refine st_p (ex_fb 15 h74_70) F70.l fun a71 u71 h75_71 => ?_
  have F71 := F70.pt u71
  refine st_p (ex_le (v := (.int .u64 t)) h75_71 (Bb_7.cell 15)) F71.l fun a72 u72 h76_72 => ?_
  have F72 := F71.pt u72
  refine st_p (ex_bin (vy := (.int .u64 1)) (v := (.int .u64 (t + 1))) h76_72 rfl (bo_addu _ _ _ (by omega) (by omega))) F72.l fun a73 u73 h77_73 => ?_
  have F73 := F72.pt u73
  have h0_73 := u73.w (u72.w (u71.w (u70.w (u69.w (u68.w h0_67)))))
  refine st_p (ex_mv h0_73) F73.l fun a74 u74 h78_74 => ?_
  have F74 := F73.pt u74
  refine st_p (ex_nil h78_74) F74.l fun a75 u75 h79_75 => ?_
  have F75 := F74.pt u75
  refine st_p (ex_fb 13 h79_75) F75.l fun a76 u76 h80_76 => ?_
  have F76 := F75.pt u76
  refine st_p (ex_le (v := (.int .u64 cap)) h80_76 (Bb_7.cell 13)) F76.l fun a77 u77 h81_77 => ?_
  have F77 := F76.pt u77
  have h77_77 := u77.w (u76.w (u75.w (u74.w h77_73)))
  refine st_p (ex_bin (v := (.int .u64 ((t + 1) % cap))) h77_77 h81_77 (bo_remu _ _ _ (by omega) (by omega) (by omega))) F77.l fun a78 u78 h82_78 => ?_
  have F78 := F77.pt u78
  have h72_78 := u78.w (u77.w (u76.w (u75.w (u74.w (u73.w (u72.w (u71.w (u70.w (u69.w h72_68)))))))))
  refine st_p (ex_nil h72_78) F78.l fun a79 u79 h83_79 => ?_
  have F79 := F78.pt u79
  refine st_p (ex_fb 15 h83_79) F79.l fun a80 u80 h84_80 => ?_
  have F80 := F79.pt u80
  obtain ⟨w8, hr8, Bb_8, G8⟩ := st_run (T := 50) (o := 15) (v := (.int .u64 ((t + 1) % cap))) (cs' := #[(.float .f64 x), (.int .u64 seq), (.slice (some ⟨g, 0, none⟩) cap cap), c3, c4, c5, c6, c7, c8, c9, c10, c11, c12, (.int .u64 cap), (.int .u64 0), (.int .u64 ((t + 1) % cap)), (.int .u64 t), (.slice none 0 0), (.int .i64 0), (.int .i8 0), c20, c21, c22]) (fun _ => by kernel_rfl) Bb_7 rfl (by simp) rfl
  have Bg_8 := Bg_7.gk G8 hgb
  have Bq_8 := Bq_7.gk G8 hqb
  have Bv_8 := Bv_7.gk G8 hvb
  have Kp8 := Kp7.set G8 (Or.inl (by simp))
  refine wl_n (ex_st h84_80 (u80.w (u79.w h82_78)) hr8) ?_
  change Code.wp _ _ _ _ _
  refine wp_seq ?_
  refine rg_list ?_
  have h0_80 := u80.w (u79.w (u78.w (u77.w (u76.w (u75.w (u74.w h0_73))))))
  refine wl_p (ex_mv h0_80) F80.l fun a81 u81 h85_81 => ?_
  have F81 := F80.pt u81
  refine wl_p (ex_nil h85_81) F81.l fun a82 u82 h86_82 => ?_
  have F82 := F81.pt u82
  refine wl_p (ex_fb 16 h86_82) F82.l fun a83 u83 h87_83 => ?_
  have F83 := F82.pt u83
  refine wl_p (ex_le (v := (.int .u64 t)) h87_83 (Bb_8.cell 16)) F83.l fun a84 u84 h88_84 => ?_
  have F84 := F83.pt u84
  refine wl_p (ex_bin (vy := (.int .u64 1)) (v := (.int .u64 (t + 1))) h88_84 rfl (bo_addu _ _ _ (by omega) (by omega))) F84.l fun a85 u85 h89_85 => ?_
  have F85 := F84.pt u85
  have h85_85 := u85.w (u84.w (u83.w (u82.w h85_81)))
  refine wl_p (ex_nil h85_85) F85.l fun a86 u86 h90_86 => ?_
  have F86 := F85.pt u86
  refine wl_p (ex_fb 16 h90_86) F86.l fun a87 u87 h91_87 => ?_
  have F87 := F86.pt u87
  obtain ⟨w9, hr9, Bb_9, G9⟩ := st_run (T := 50) (o := 16) (v := (.int .u64 (t + 1))) (cs' := #[(.float .f64 x), (.int .u64 seq), (.slice (some ⟨g, 0, none⟩) cap cap), c3, c4, c5, c6, c7, c8, c9, c10, c11, c12, (.int .u64 cap), (.int .u64 0), (.int .u64 ((t + 1) % cap)), (.int .u64 (t + 1)), (.slice none 0 0), (.int .i64 0), (.int .i8 0), c20, c21, c22]) (fun _ => by kernel_rfl) Bb_8 rfl (by simp) rfl
  have Bg_9 := Bg_8.gk G9 hgb
  have Bq_9 := Bq_8.gk G9 hqb
  have Bv_9 := Bv_8.gk G9 hvb
  have Kp9 := Kp8.set G9 (Or.inl (by simp))
  refine wl_n (ex_st h91_87 (u87.w (u86.w h89_85)) hr9) ?_
  change Code.wp _ _ _ _ _
  refine wp_seq ?_
  refine wp_seq ?_
  obtain ⟨w10, hw10⟩ : ∃ w, w = w9.drew := ⟨_, rfl⟩
  have G10 : w9.grownBy w10 none := hw10 ▸ grown_drew _
  have Bb_10 := Bb_9.gn G10
  have Bg_10 := Bg_9.gn G10
  have Bq_10 := Bq_9.gn G10
  have Bv_10 := Bv_9.gn G10
  have Kp10 := Kp9.new G10
  refine rg_still hw10 hmix (by kernel_rfl) ?_
  have h0_87 := u87.w (u86.w (u85.w (u84.w (u83.w (u82.w (u81.w h0_80))))))
  refine st_p (ex_mv h0_87) F87.l fun a88 u88 h92_88 => ?_
  have F88 := F87.pt u88
  refine st_p (ex_nil h92_88) F88.l fun a89 u89 h93_89 => ?_
  have F89 := F88.pt u89
  refine st_p (ex_fb 0 h93_89) F89.l fun a90 u90 h94_90 => ?_
  have F90 := F89.pt u90
  refine st_p (ex_le (v := (.float .f64 x)) h94_90 (Bb_10.cell 0)) F90.l fun a91 u91 h95_91 => ?_
  have F91 := F90.pt u91
  have h1_91 := u91.w (u90.w (u89.w (u88.w (u87.w (u86.w (u85.w (u84.w (u83.w (u82.w (u81.w (u80.w (u79.w (u78.w (u77.w (u76.w (u75.w (u74.w (u73.w (u72.w (u71.w (u70.w (u69.w (u68.w (u67.w (u66.w h1_65)))))))))))))))))))))))))
  refine st_p (ex_mv h1_91) F91.l fun a92 u92 h96_92 => ?_
  have F92 := F91.pt u92
  refine st_p (ex_nil h96_92) F92.l fun a93 u93 h97_93 => ?_
  have F93 := F92.pt u93
  refine st_p (ex_fb 3 h97_93) F93.l fun a94 u94 h98_94 => ?_
  have F94 := F93.pt u94
  refine st_p (ex_le (v := (.float .f64 y)) h98_94 (Bq_10.cell 3)) F94.l fun a95 u95 h99_95 => ?_
  have F95 := F94.pt u95
  have h95_95 := u95.w (u94.w (u93.w (u92.w h95_91)))
  refine st_p (ex_bin (v := (.bool true)) h95_95 h99_95 ((bo_lssf _ _ _).trans (by rw [hord]))) F95.l fun a96 u96 h100_96 => ?_
  have F96 := F95.pt u96
  change Code.wp _ _ _ _ _
  refine wp_cond_true h100_96 ?_
  refine rg_list ?_
  have h0_96 := u96.w (u95.w (u94.w (u93.w (u92.w (u91.w (u90.w (u89.w (u88.w h0_87))))))))
  refine wl_p (ex_mv h0_96) F96.l fun a97 u97 h101_97 => ?_
  have F97 := F96.pt u97
  have h1_97 := u97.w (u96.w (u95.w (u94.w (u93.w (u92.w h1_91)))))
  refine wl_p (ex_mv h1_97) F97.l fun a98 u98 h102_98 => ?_
  have F98 := F97.pt u98
  refine wl_p (ex_nil h102_98) F98.l fun a99 u99 h103_99 => ?_
  have F99 := F98.pt u99
  refine wl_p (ex_fb 3 h103_99) F99.l fun a100 u100 h104_100 => ?_
  have F100 := F99.pt u100
  refine wl_p (ex_le (v := (.float .f64 y)) h104_100 (Bq_10.cell 3)) F100.l fun a101 u101 h105_101 => ?_
  have F101 := F100.pt u101
  refine wl_cl (args := #[(.float .f64 y)]) (R := fun v w' => v = (.float .f64 (fceil y)) ∧ (w10 = w')) (ex_cl (fun _ _ => by kernel_rfl) (arg1 h105_101)) ((ceil_any y hn _).mono fun _ _ h => ⟨_, h.1, rfl, h.2⟩) F101.l ?_
  rintro v w' ⟨rfl, rfl⟩
  intro a102 u102 h106_102
  have F102 := F101.pt u102
  have h101_102 := u102.w (u101.w (u100.w (u99.w (u98.w h101_97))))
  refine wl_p (ex_nil h101_102) F102.l fun a103 u103 h107_103 => ?_
  have F103 := F102.pt u103
  refine wl_p (ex_fb 0 h107_103) F103.l fun a104 u104 h108_104 => ?_
  have F104 := F103.pt u104
  obtain ⟨w11, hr11, Bb_11, G11⟩ := st_run (T := 24) (o := 0) (v := (.float .f64 (fceil y))) (cs' := #[(.float .f64 (fceil y)), (.int .u64 seq), (.slice (some ⟨g, 0, none⟩) cap cap), c3, c4, c5, c6, c7, c8, c9, c10, c11, c12, (.int .u64 cap), (.int .u64 0), (.int .u64 ((t + 1) % cap)), (.int .u64 (t + 1)), (.slice none 0 0), (.int .i64 0), (.int .i8 0), c20, c21, c22]) (fun _ => by kernel_rfl) Bb_10 rfl (by simp) rfl
  have Bg_11 := Bg_10.gk G11 hgb
  have Bq_11 := Bq_10.gk G11 hqb
  have Bv_11 := Bv_10.gk G11 hvb
  have Kp11 := Kp10.set G11 (Or.inl (by simp))
  refine wl_n (ex_st h108_104 (u104.w (u103.w h106_102)) hr11) ?_
  change Code.wp _ _ _ _ _
  refine wp_seq ?_
  refine rg_list ?_
  have h0_104 := u104.w (u103.w (u102.w (u101.w (u100.w (u99.w (u98.w (u97.w h0_96)))))))
  refine wl_p (ex_mv h0_104) F104.l fun a105 u105 h109_105 => ?_
  have F105 := F104.pt u105
  refine wl_p (ex_nil h109_105) F105.l fun a106 u106 h110_106 => ?_
  have F106 := F105.pt u106
  refine wl_p (ex_fb 17 h110_106) F106.l fun a107 u107 h111_107 => ?_
  have F107 := F106.pt u107
  refine wl_cl (args := #[(.pointer (some ⟨b, 17, none⟩))]) (R := fun v w' => v = (.tuple #[]) ∧ (Blk w' b 70 #[(.float .f64 (fceil y)), (.int .u64 seq), (.slice (some ⟨g, 0, none⟩) cap cap), c3, c4, c5, c6, c7, c8, c9, c10, c11, c12, (.int .u64 cap), (.int .u64 0), (.int .u64 ((t + 1) % cap)), (.int .u64 (t + 1)), (.slice none 0 0), (.int .i64 0), (.int .i8 0), c20, c21, c22] ∧ w11.grownBy w' (some b))) (ex_cl (fun _ _ => by kernel_rfl) (arg1 h111_107)) ((reset17 Bb_11).mono fun _ _ h => ⟨_, h.1, rfl, h.2⟩) F107.l ?_
  rintro v w12 ⟨rfl, Bb_12, G12⟩
  have Bg_12 := Bg_11.gk G12 hgb
  have Bq_12 := Bq_11.gk G12 hqb
  have Bv_12 := Bv_11.gk G12 hvb
  have Kp12 := Kp11.set G12 (Or.inl (by simp))
  intro a108 u108 h112_108
  have F108 := F107.pt u108
  change Code.wp _ _ _ _ _
  refine wp_seq ?_
  refine rg_list ?_
  refine wl_p (ex_as (v := .nilIface) rfl) F108.l fun a109 u109 h4_109 => ?_
  have F109 := F108.pt u109
  change Code.wp _ _ _ _ _
  refine wp_ret ?_
  try simp only [Exit.then, Exit.inBlock]
  exact bodyPost_ret (v := .nilIface) ((results_tmp rfl _ _ _).trans (by rw [h4_109])) F109.defers ⟨rfl, Bb_12, Bg_12, Bq_12, Kp12⟩
end Go.Proofs.YtlphcidpaidclaaGreatDoor
