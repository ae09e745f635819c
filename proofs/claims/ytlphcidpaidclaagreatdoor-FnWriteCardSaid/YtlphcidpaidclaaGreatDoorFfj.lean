/-
  internal/strconv.ftoa64 and ftoa32 at the verb f.
-/
import Derived.Test.YtlphcidpaidclaaGreatDoorFfi
import Derived.Test.YtlphcidpaidclaaGreatDoorSgo
namespace Go.Proofs.YtlphcidpaidclaaGreatDoor
open Go.RowKit
set_option maxRecDepth 100000
theorem below_gs {B g : Nat} {w w1 w2 : World} (h : Below B w w1) (hB : B ≤ w1.heap.size) (G : w1.grownBy w2 (some g)) (hg : B ≤ g) : Below B w w2 := h.trans ⟨G.os, G.tape, G.output, G.size, fun k hk => G.block k (by omega) (fun e => by have := Option.some.inj e; omega)⟩
theorem maxz_run {ats : Array TypeId} {ty : TypeId} {cs : Array Bool} (n : Int) (r : Nat) (h : n.toNat = r) (w : World) : (builtin .max ats ty cs #[.int .i64 n, .int .i64 0]).run Tryz.prog w = .ok (.value (.int .i64 r)) w := by
  subst h
  rcases Int.lt_or_le 0 n with h | h
  · simp [go_sem]
    try omega
  · simp [go_sem]
    try omega
theorem sl154_run (g : Nat) (w : World) : (Instr.sliceAt 154 (.pointer (some ⟨g, 0, none⟩)) none none none).run Tryz.prog w = .ok (.slice (some ⟨g, 0, none⟩) 32 32) w := by kernel_rfl
theorem sl133_run (g : Nat) (w : World) : (Instr.sliceAt 133 (.pointer (some ⟨g, 0, none⟩)) none none none).run Tryz.prog w = .ok (.slice (some ⟨g, 0, none⟩) 24 24) w := by kernel_rfl

theorem ftoa64_any {x d i hi lo z dp B : Nat} {eb mt mant m e2 p mn mx odd s dmin u1 u2 : Int} {tr l : List UInt8} {v0 : Value} {w0 : World}
    (h1 : (x : Int) / 2 ^ 63 = 0) (h2 : (x : Int) / 2 ^ 52 = eb) (h3 : bits .and .i64 eb 2047 = eb) (heb : 0 < eb ∧ eb < 2047) (h4 : bits .and .u64 x 4503599627370495 = mt) (h5 : bits .or .u64 mt 4503599627370496 = mant) (hmant : 0 < mant ∧ mant < 18446744073709551616) (hbl : Lib.bitLen mant.toNat = 53) (h6 : wr (mant * 2 ^ 11) = m) (he : eb - 1023 - 11 - 52 = e2)
    (hS : ShF m e2 p mn mx odd s d dmin u1 u2 i hi lo) (hd1 : 1 ≤ d) (hd2 : d < 1000000000000000000) (hpp : -100 ≤ -(p - 1) ∧ -(p - 1) ≤ 100) (hdig : Lib.decDigits d = tr ++ List.replicate z 48) (htr0 : 0 < tr.length) (htr30 : tr.length ≤ 20) (hlast : ∀ h, tr[tr.length - 1]'h ≠ 48) (hdp : (Lib.nDigits d : Int) + -(p - 1) = dp) (hdp30 : dp ≤ 20)
    (hR : BRow w0 B v0 l) (hB : B ≤ w0.heap.size) (hl : l.length ≤ 20) (ht : TabP w0) (hgt : 7 < B) :
    Calls Tryz.prog 69 #[v0, .float .f64 x, .int .u8 102, .int .i64 (-1)] w0 fun e w' => ∃ v, e = .returned v ∧ BRow w' B v (l ++ efgT tr dp (tr.length - dp)) ∧ Below B w0 w' := by
  refine calls_of_wp Tryz.func69 rfl ?_
  generalize hA : Act.mk _ _ = a0
  have F0 : Fz 298 a0 := by subst hA; exact ⟨by simp [Tryz.ntmps69], rfl⟩
  have h0_0 : a0.tmps.getD 0 undef = v0 := by subst hA; exact fr_arg rfl
  have h1_0 : a0.tmps.getD 1 undef = (.float .f64 x) := by subst hA; exact fr_arg rfl
  have h2_0 : a0.tmps.getD 2 undef = (.int .u8 102) := by subst hA; exact fr_arg rfl
  have h3_0 : a0.tmps.getD 3 undef = (.int .i64 (-1)) := by subst hA; exact fr_arg rfl
  clear hA
  have R_0 := hR
  have TP_0 := ht
  have Bl_0 := Below.refl B w0
  have Hb_0 := hB
  refine wp_seq ?_
  refine rg_list ?_
  refine wl_p (ex_as (v := (.slice none 0 0)) rfl) F0.l fun a1 u1 h8_1 => ?_
  have F1 := F0.pt u1
  change Code.wp _ _ _ _ _
  refine wp_seq ?_
  refine rg_list ?_
  refine wl_p (ex_as (v := (.int .u64 0)) rfl) F1.l fun a2 u2 h9_2 => ?_
  have F2 := F1.pt u2
  change Code.wp _ _ _ _ _
  refine wp_seq ?_
  refine rg_list ?_
  refine wl_p (ex_as (v := (.int .i64 0)) rfl) F2.l fun a3 u3 h10_3 => ?_
  have F3 := F2.pt u3
  refine wl_p (ex_as (v := (.int .i64 0)) rfl) F3.l fun a4 u4 h11_4 => ?_
  have F4 := F3.pt u4
  refine wl_p (ex_as (v := (.int .i64 0)) rfl) F4.l fun a5 u5 h12_5 => ?_
  have F5 := F4.pt u5
  change Code.wp _ _ _ _ _
  refine wp_seq ?_
  refine wp_block ?_
  refine wp_seq ?_
  refine rg_list ?_
  refine wl_p (ex_bin (vx := (.int .u64 64)) (vy := (.int .u64 32)) (v := (.bool false)) rfl rfl (by kernel_rfl)) F5.l fun a6 u6 h35_6 => ?_
  have F6 := F5.pt u6
  refine wl_p (ex_as h35_6) F6.l fun a7 u7 h34_7 => ?_
  have F7 := F6.pt u7
  change Code.wp _ _ _ _ _
  refine wp_cond_false h34_7 ?_
  refine wp_seq ?_
  refine rg_list ?_
  refine wl_p (ex_bin (vx := (.int .u64 64)) (vy := (.int .u64 64)) (v := (.bool true)) rfl rfl (by kernel_rfl)) F7.l fun a8 u8 h41_8 => ?_
  have F8 := F7.pt u8
  refine wl_p (ex_as h41_8) F8.l fun a9 u9 h40_9 => ?_
  have F9 := F8.pt u9
  change Code.wp _ _ _ _ _
  refine wp_cond_true h40_9 ?_
  refine wp_seq ?_
  refine rg_list ?_
  have h1_9 := u9.w (u8.w (u7.w (u6.w (u5.w (u4.w (u3.w (u2.w (u1.w h1_0))))))))
  refine wl_p (ex_mv h1_9) F9.l fun a10 u10 h42_10 => ?_
  have F10 := F9.pt u10
  refine wl_p (ex_extn (arg1 h42_10) (fbits64 x _)) F10.l fun a11 u11 (h43_11 : a11.tmps.getD 43 undef = (.int .u64 x)) => ?_
  have F11 := F10.pt u11
  refine wl_p (ex_as h43_11) F11.l fun a12 u12 h9_12 => ?_
  have F12 := F11.pt u12
  change Code.wp _ _ _ _ _
  refine wp_seq ?_
  refine rg_list ?_
  refine wl_p (ex_as (v := (.int .i64 11)) rfl) F12.l fun a13 u13 h10_13 => ?_
  have F13 := F12.pt u13
  change Code.wp _ _ _ _ _
  refine wp_seq ?_
  refine rg_list ?_
  refine wl_p (ex_as (v := (.int .i64 52)) rfl) F13.l fun a14 u14 h11_14 => ?_
  have F14 := F13.pt u14
  change Code.wp _ _ _ _ _
  refine rg_list ?_
  refine wl_p (ex_as (v := (.int .i64 (-1023))) rfl) F14.l fun a15 u15 h12_15 => ?_
  have F15 := F14.pt u15
  change Code.wp _ _ _ _ _
  refine wp_seq ?_
  refine rg_list ?_
  have h9_15 := u15.w (u14.w (u13.w h9_12))
  refine wl_p (ex_mv h9_15) F15.l fun a16 u16 h44_16 => ?_
  have F16 := F15.pt u16
  have h10_16 := u16.w (u15.w (u14.w h10_13))
  refine wl_p (ex_mv h10_16) F16.l fun a17 u17 h45_17 => ?_
  have F17 := F16.pt u17
  have h11_17 := u17.w (u16.w (u15.w h11_14))
  refine wl_p (ex_mv h11_17) F17.l fun a18 u18 h46_18 => ?_
  have F18 := F17.pt u18
  refine wl_p (ex_bin (v := (.int .i64 63)) (u18.w h45_17) h46_18 (by kernel_rfl)) F18.l fun a19 u19 h47_19 => ?_
  have F19 := F18.pt u19
  have h44_19 := u19.w (u18.w (u17.w h44_16))
  refine wl_p (ex_bin (v := (.int .u64 0)) h44_19 h47_19 (bo_shr_r x 0 63 (by decide) h1 _)) F19.l fun a20 u20 h48_20 => ?_
  have F20 := F19.pt u20
  refine wl_p (ex_bin (vy := (.int .u64 0)) (v := (.bool false)) h48_20 rfl (by kernel_rfl)) F20.l fun a21 u21 h49_21 => ?_
  have F21 := F20.pt u21
  refine wl_p (ex_as h49_21) F21.l fun a22 u22 h13_22 => ?_
  have F22 := F21.pt u22
  change Code.wp _ _ _ _ _
  refine wp_seq ?_
  obtain ⟨w1, hw1⟩ : ∃ w, w = w0.drew := ⟨_, rfl⟩
  have G1 : w0.grownBy w1 none := hw1 ▸ grown_drew _
  have R_1 := R_0.gn G1
  have TP_1 := TP_0.gn G1 (Nat.lt_of_lt_of_le hgt Hb_0)
  have Bl_1 := below_gn Bl_0 Hb_0 G1
  have Hb_1 := Nat.le_trans Hb_0 G1.size
  refine rg_still hw1 hmix (by kernel_rfl) ?_
  have h9_22 := u22.w (u21.w (u20.w (u19.w (u18.w (u17.w (u16.w h9_15))))))
  refine st_p (ex_mv h9_22) F22.l fun a23 u23 h50_23 => ?_
  have F23 := F22.pt u23
  have h11_23 := u23.w (u22.w (u21.w (u20.w (u19.w (u18.w h11_17)))))
  refine st_p (ex_mv h11_23) F23.l fun a24 u24 h51_24 => ?_
  have F24 := F23.pt u24
  refine st_p (ex_bin (v := (.int .u64 eb)) (u24.w h50_23) h51_24 (bo_shr_r x eb 52 (by decide) h2 _)) F24.l fun a25 u25 h52_25 => ?_
  have F25 := F24.pt u25
  refine st_p (ex_conv (vx := (.int .u64 eb)) (v := (.int .i64 eb)) h52_25 (cv_u64_i eb (by omega) (by omega) _)) F25.l fun a26 u26 h53_26 => ?_
  have F26 := F25.pt u26
  have h10_26 := u26.w (u25.w (u24.w (u23.w (u22.w (u21.w (u20.w (u19.w (u18.w (u17.w h10_16)))))))))
  refine st_p (ex_mv h10_26) F26.l fun a27 u27 h54_27 => ?_
  have F27 := F26.pt u27
  refine st_p (ex_bin (vx := (.int .i64 1)) (v := (.int .i64 2048)) rfl h54_27 (by kernel_rfl)) F27.l fun a28 u28 h55_28 => ?_
  have F28 := F27.pt u28
  refine st_p (ex_bin (vy := (.int .i64 1)) (v := (.int .i64 2047)) h55_28 rfl (by kernel_rfl)) F28.l fun a29 u29 h56_29 => ?_
  have F29 := F28.pt u29
  have h53_29 := u29.w (u28.w (u27.w h53_26))
  refine st_p (ex_bin (v := (.int .i64 eb)) h53_29 h56_29 (bo_andi_r eb 2047 eb h3 _)) F29.l fun a30 u30 h57_30 => ?_
  have F30 := F29.pt u30
  refine st_p (ex_as h57_30) F30.l fun a31 u31 h14_31 => ?_
  have F31 := F30.pt u31
  change Code.wp _ _ _ _ _
  refine wp_seq ?_
  refine rg_list ?_
  have h9_31 := u31.w (u30.w (u29.w (u28.w (u27.w (u26.w (u25.w (u24.w (u23.w h9_22))))))))
  refine wl_p (ex_mv h9_31) F31.l fun a32 u32 h58_32 => ?_
  have F32 := F31.pt u32
  have h11_32 := u32.w (u31.w (u30.w (u29.w (u28.w (u27.w (u26.w (u25.w (u24.w h11_23))))))))
  refine wl_p (ex_mv h11_32) F32.l fun a33 u33 h59_33 => ?_
  have F33 := F32.pt u33
  refine wl_p (ex_bin (vx := (.int .u64 1)) (v := (.int .u64 4503599627370496)) rfl h59_33 (by kernel_rfl)) F33.l fun a34 u34 h60_34 => ?_
  have F34 := F33.pt u34
  refine wl_p (ex_bin (vy := (.int .u64 1)) (v := (.int .u64 4503599627370495)) h60_34 rfl (by kernel_rfl)) F34.l fun a35 u35 h61_35 => ?_
  have F35 := F34.pt u35
  have h58_35 := u35.w (u34.w (u33.w h58_32))
  refine wl_p (ex_bin (v := (.int .u64 mt)) h58_35 h61_35 (bo_andu_r x 4503599627370495 mt h4 _)) F35.l fun a36 u36 h62_36 => ?_
  have F36 := F35.pt u36
  refine wl_p (ex_as h62_36) F36.l fun a37 u37 h15_37 => ?_
  have F37 := F36.pt u37
  change Code.wp _ _ _ _ _
  refine wp_seq ?_
  refine wp_seq ?_
  refine rg_list ?_
  have h14_37 := u37.w (u36.w (u35.w (u34.w (u33.w (u32.w h14_31)))))
  refine wl_p (ex_mv h14_37) F37.l fun a38 u38 h63_38 => ?_
  have F38 := F37.pt u38
  have h10_38 := u38.w (u37.w (u36.w (u35.w (u34.w (u33.w (u32.w (u31.w (u30.w (u29.w (u28.w (u27.w h10_26)))))))))))
  refine wl_p (ex_mv h10_38) F38.l fun a39 u39 h64_39 => ?_
  have F39 := F38.pt u39
  refine wl_p (ex_bin (vx := (.int .i64 1)) (v := (.int .i64 2048)) rfl h64_39 (by kernel_rfl)) F39.l fun a40 u40 h65_40 => ?_
  have F40 := F39.pt u40
  refine wl_p (ex_bin (vy := (.int .i64 1)) (v := (.int .i64 2047)) h65_40 rfl (by kernel_rfl)) F40.l fun a41 u41 h66_41 => ?_
  have F41 := F40.pt u41
  have h63_41 := u41.w (u40.w (u39.w h63_38))
  refine wl_p (ex_bin (v := (.bool false)) h63_41 h66_41 (bo_eqz_r eb 2047 false (by simp; omega) _)) F41.l fun a42 u42 h67_42 => ?_
  have F42 := F41.pt u42
  change Code.wp _ _ _ _ _
  refine wp_cond_false h67_42 ?_
  refine wp_skip ?_
  change Code.wp _ _ _ _ _
  refine wp_seq ?_
  refine wp_seq ?_
  refine rg_list ?_
  have h14_42 := u42.w (u41.w (u40.w (u39.w (u38.w h14_37))))
  refine wl_p (ex_mv h14_42) F42.l fun a43 u43 h77_43 => ?_
  have F43 := F42.pt u43
  refine wl_p (ex_bin (vy := (.int .i64 0)) (v := (.bool false)) h77_43 rfl (bo_eqz_r eb 0 false (by simp; omega) _)) F43.l fun a44 u44 h78_44 => ?_
  have F44 := F43.pt u44
  change Code.wp _ _ _ _ _
  refine wp_cond_false h78_44 ?_
  refine rg_list ?_
  have h15_44 := u44.w (u43.w (u42.w (u41.w (u40.w (u39.w (u38.w h15_37))))))
  refine wl_p (ex_mv h15_44) F44.l fun a45 u45 h81_45 => ?_
  have F45 := F44.pt u45
  have h11_45 := u45.w (u44.w (u43.w (u42.w (u41.w (u40.w (u39.w (u38.w (u37.w (u36.w (u35.w (u34.w (u33.w h11_32))))))))))))
  refine wl_p (ex_mv h11_45) F45.l fun a46 u46 h82_46 => ?_
  have F46 := F45.pt u46
  refine wl_p (ex_bin (vx := (.int .u64 1)) (v := (.int .u64 4503599627370496)) rfl h82_46 (by kernel_rfl)) F46.l fun a47 u47 h83_47 => ?_
  have F47 := F46.pt u47
  refine wl_p (ex_bin (v := (.int .u64 mant)) (u47.w (u46.w h81_45)) h83_47 (bo_oru_r mt 4503599627370496 mant h5 _)) F47.l fun a48 u48 h84_48 => ?_
  have F48 := F47.pt u48
  refine wl_p (ex_as h84_48) F48.l fun a49 u49 h15_49 => ?_
  have F49 := F48.pt u49
  change Code.wp _ _ _ _ _
  refine wp_seq ?_
  refine rg_list ?_
  have h14_49 := u49.w (u48.w (u47.w (u46.w (u45.w (u44.w (u43.w h14_42))))))
  refine wl_p (ex_mv h14_49) F49.l fun a50 u50 h85_50 => ?_
  have F50 := F49.pt u50
  have h12_50 := u50.w (u49.w (u48.w (u47.w (u46.w (u45.w (u44.w (u43.w (u42.w (u41.w (u40.w (u39.w (u38.w (u37.w (u36.w (u35.w (u34.w (u33.w (u32.w (u31.w (u30.w (u29.w (u28.w (u27.w (u26.w (u25.w (u24.w (u23.w (u22.w (u21.w (u20.w (u19.w (u18.w (u17.w (u16.w h12_15))))))))))))))))))))))))))))))))))
  refine wl_p (ex_mv h12_50) F50.l fun a51 u51 h86_51 => ?_
  have F51 := F50.pt u51
  refine wl_p (ex_bin (v := (.int .i64 (eb - 1023))) (u51.w h85_50) h86_51 (bo_addz_r eb (-1023) (eb - 1023) (by omega) _ (by omega) (by omega))) F51.l fun a52 u52 h87_52 => ?_
  have F52 := F51.pt u52
  refine wl_p (ex_as h87_52) F52.l fun a53 u53 h14_53 => ?_
  have F53 := F52.pt u53
  change Code.wp _ _ _ _ _
  refine wp_seq ?_
  refine wp_seq ?_
  refine rg_list ?_
  have h2_53 := u53.w (u52.w (u51.w (u50.w (u49.w (u48.w (u47.w (u46.w (u45.w (u44.w (u43.w (u42.w (u41.w (u40.w (u39.w (u38.w (u37.w (u36.w (u35.w (u34.w (u33.w (u32.w (u31.w (u30.w (u29.w (u28.w (u27.w (u26.w (u25.w (u24.w (u23.w (u22.w (u21.w (u20.w (u19.w (u18.w (u17.w (u16.w (u15.w (u14.w (u13.w (u12.w (u11.w (u10.w (u9.w (u8.w (u7.w (u6.w (u5.w (u4.w (u3.w (u2.w (u1.w h2_0))))))))))))))))))))))))))))))))))))))))))))))))))))
  refine wl_p (ex_mv h2_53) F53.l fun a54 u54 h88_54 => ?_
  have F54 := F53.pt u54
  refine wl_p (ex_bin (vy := (.int .u8 98)) (v := (.bool false)) h88_54 rfl (by kernel_rfl)) F54.l fun a55 u55 h89_55 => ?_
  have F55 := F54.pt u55
  change Code.wp _ _ _ _ _
  refine wp_cond_false h89_55 ?_
  refine wp_skip ?_
  change Code.wp _ _ _ _ _
  refine wp_seq ?_
  refine wp_seq ?_
  refine rg_list ?_
  refine wl_p (ex_mv (u55.w (u54.w h2_53))) F55.l fun a56 u56 h97_56 => ?_
  have F56 := F55.pt u56
  refine wl_p (ex_bin (vy := (.int .u8 120)) (v := (.bool false)) h97_56 rfl (by kernel_rfl)) F56.l fun a57 u57 h98_57 => ?_
  have F57 := F56.pt u57
  refine wl_p (ex_mv h98_57) F57.l fun a58 u58 h99_58 => ?_
  have F58 := F57.pt u58
  have h2_58 := u58.w (u57.w (u56.w (u55.w (u54.w h2_53))))
  refine wl_g (yl (e := 99) rfl h99_58) (ex_mv h2_58) F58.l fun a59 u59 h100_59 => ?_
  have F59 := F58.pt u59
  refine wl_g (yl (e := 99) rfl (u59.w h99_58)) (ex_bin (vy := (.int .u8 88)) (v := (.bool false)) h100_59 rfl (by kernel_rfl)) F59.l fun a60 u60 h101_60 => ?_
  have F60 := F59.pt u60
  refine wl_p (ex_pick (q := false) (u60.w (u59.w h99_58)) h101_60) F60.l fun a61 u61 h102_61 => ?_
  have F61 := F60.pt u61
  change Code.wp _ _ _ _ _
  refine wp_cond_false h102_61 ?_
  refine wp_skip ?_
  change Code.wp _ _ _ _ _
  refine wp_seq ?_
  refine wp_seq ?_
  refine rg_list ?_
  have h15_61 := u61.w (u60.w (u59.w (u58.w (u57.w (u56.w (u55.w (u54.w (u53.w (u52.w (u51.w (u50.w h15_49)))))))))))
  refine wl_p (ex_mv h15_61) F61.l fun a62 u62 h111_62 => ?_
  have F62 := F61.pt u62
  refine wl_p (ex_bin (vy := (.int .u64 0)) (v := (.bool false)) h111_62 rfl (bo_equ_r mant 0 false (by simp; omega) _)) F62.l fun a63 u63 h112_63 => ?_
  have F63 := F62.pt u63
  change Code.wp _ _ _ _ _
  refine wp_cond_false h112_63 ?_
  refine wp_skip ?_
  change Code.wp _ _ _ _ _
  refine wp_seq ?_
  refine wp_seq ?_
  refine rg_list ?_
  have h3_63 := u63.w (u62.w (u61.w (u60.w (u59.w (u58.w (u57.w (u56.w (u55.w (u54.w (u53.w (u52.w (u51.w (u50.w (u49.w (u48.w (u47.w (u46.w (u45.w (u44.w (u43.w (u42.w (u41.w (u40.w (u39.w (u38.w (u37.w (u36.w (u35.w (u34.w (u33.w (u32.w (u31.w (u30.w (u29.w (u28.w (u27.w (u26.w (u25.w (u24.w (u23.w (u22.w (u21.w (u20.w (u19.w (u18.w (u17.w (u16.w (u15.w (u14.w (u13.w (u12.w (u11.w (u10.w (u9.w (u8.w (u7.w (u6.w (u5.w (u4.w (u3.w (u2.w (u1.w h3_0))))))))))))))))))))))))))))))))))))))))))))))))))))))))))))))
  refine wl_p (ex_mv h3_63) F63.l fun a64 u64 h120_64 => ?_
  have F64 := F63.pt u64
  refine wl_p (ex_bin (vy := (.int .i64 0)) (v := (.bool true)) h120_64 rfl (by kernel_rfl)) F64.l fun a65 u65 h121_65 => ?_
  have F65 := F64.pt u65
  change Code.wp _ _ _ _ _
  refine wp_cond_true h121_65 ?_
  refine wp_seq ?_
  refine rg_list ?_
  obtain ⟨g16, hg16⟩ : ∃ g, w1.heap.size = g := ⟨_, rfl⟩
  have hgB : B ≤ g16 := by have := Hb_1; omega
  obtain ⟨w2, hr2, B16_2, G2, hs2⟩ := al_run (op := Instr.alloc 154 true (.tuple #[])) (T := 154) (cs := #[(.int .u8 0), (.int .u8 0), (.int .u8 0), (.int .u8 0), (.int .u8 0), (.int .u8 0), (.int .u8 0), (.int .u8 0), (.int .u8 0), (.int .u8 0), (.int .u8 0), (.int .u8 0), (.int .u8 0), (.int .u8 0), (.int .u8 0), (.int .u8 0), (.int .u8 0), (.int .u8 0), (.int .u8 0), (.int .u8 0), (.int .u8 0), (.int .u8 0), (.int .u8 0), (.int .u8 0), (.int .u8 0), (.int .u8 0), (.int .u8 0), (.int .u8 0), (.int .u8 0), (.int .u8 0), (.int .u8 0), (.int .u8 0)]) hg16 (fun _ => by kernel_rfl)
  have R_2 := R_1.gn G2
  have TP_2 := TP_1.gn G2 (Nat.lt_of_lt_of_le hgt Hb_1)
  have Bl_2 := below_gn Bl_1 Hb_1 G2
  have Hb_2 := Nat.le_trans Hb_1 G2.size
  refine wl_p (ex_al hr2) F65.l fun a66 u66 (h16_66 : a66.tmps.getD 16 undef = (.pointer (some ⟨g16, 0, none⟩))) => ?_
  have F66 := F65.pt u66
  change Code.wp _ _ _ _ _
  refine wp_seq ?_
  refine rg_list ?_
  have h15_66 := u66.w (u65.w (u64.w (u63.w (u62.w h15_61))))
  refine wl_p (ex_mv h15_66) F66.l fun a67 u67 h122_67 => ?_
  have F67 := F66.pt u67
  refine wl_cl (args := #[(.int .u64 mant)]) (R := fun v w' => v = .int .i64 53 ∧ w2 = w') (ex_cl (fun _ _ => by kernel_rfl) (arg1 h122_67)) ((len64_any mant w2 (by omega) (by omega)).mono fun _ _ h => ⟨_, h.1.trans (by rw [hbl]; rfl), rfl, h.2.symm⟩) F67.l ?_
  rintro v w' ⟨rfl, rfl⟩
  intro a68 u68 h123_68
  have F68 := F67.pt u68
  refine wl_p (ex_bin (vx := (.int .i64 64)) (v := (.int .i64 11)) rfl h123_68 (by kernel_rfl)) F68.l fun a69 u69 h124_69 => ?_
  have F69 := F68.pt u69
  refine wl_p (ex_as h124_69) F69.l fun a70 u70 h17_70 => ?_
  have F70 := F69.pt u70
  change Code.wp _ _ _ _ _
  refine wp_seq ?_
  refine rg_list ?_
  have h15_70 := u70.w (u69.w (u68.w (u67.w h15_66)))
  refine wl_p (ex_mv h15_70) F70.l fun a71 u71 h125_71 => ?_
  have F71 := F70.pt u71
  refine wl_p (ex_mv (u71.w h17_70)) F71.l fun a72 u72 h126_72 => ?_
  have F72 := F71.pt u72
  refine wl_p (ex_bin (v := (.int .u64 m)) (u72.w h125_71) h126_72 (bo_shl_r mant m 11 (by decide) h6 _)) F72.l fun a73 u73 h127_73 => ?_
  have F73 := F72.pt u73
  refine wl_p (ex_as h127_73) F73.l fun a74 u74 h18_74 => ?_
  have F74 := F73.pt u74
  change Code.wp _ _ _ _ _
  refine wp_seq ?_
  refine rg_list ?_
  have h14_74 := u74.w (u73.w (u72.w (u71.w (u70.w (u69.w (u68.w (u67.w (u66.w (u65.w (u64.w (u63.w (u62.w (u61.w (u60.w (u59.w (u58.w (u57.w (u56.w (u55.w (u54.w h14_53))))))))))))))))))))
  refine wl_p (ex_mv h14_74) F74.l fun a75 u75 h128_75 => ?_
  have F75 := F74.pt u75
  have h17_75 := u75.w (u74.w (u73.w (u72.w (u71.w h17_70))))
  refine wl_p (ex_mv h17_75) F75.l fun a76 u76 h129_76 => ?_
  have F76 := F75.pt u76
  refine wl_p (ex_bin (v := (.int .i64 (eb - 1023 - 11))) (u76.w h128_75) h129_76 (bo_subz_r (eb - 1023) 11 (eb - 1023 - 11) rfl _ (by omega) (by omega))) F76.l fun a77 u77 h130_77 => ?_
  have F77 := F76.pt u77
  refine wl_p (ex_as h130_77) F77.l fun a78 u78 h19_78 => ?_
  have F78 := F77.pt u78
  change Code.wp _ _ _ _ _
  refine wp_seq ?_
  refine rg_list ?_
  have h18_78 := u78.w (u77.w (u76.w (u75.w h18_74)))
  refine wl_p (ex_mv h18_78) F78.l fun a79 u79 h132_79 => ?_
  have F79 := F78.pt u79
  refine wl_p (ex_mv (u79.w h19_78)) F79.l fun a80 u80 h133_80 => ?_
  have F80 := F79.pt u80
  have h11_80 := u80.w (u79.w (u78.w (u77.w (u76.w (u75.w (u74.w (u73.w (u72.w (u71.w (u70.w (u69.w (u68.w (u67.w (u66.w (u65.w (u64.w (u63.w (u62.w (u61.w (u60.w (u59.w (u58.w (u57.w (u56.w (u55.w (u54.w (u53.w (u52.w (u51.w (u50.w (u49.w (u48.w (u47.w (u46.w h11_45))))))))))))))))))))))))))))))))))
  refine wl_p (ex_mv h11_80) F80.l fun a81 u81 h134_81 => ?_
  have F81 := F80.pt u81
  refine wl_p (ex_bin (v := (.int .i64 e2)) (u81.w h133_80) h134_81 (bo_subz_r (eb - 1023 - 11) 52 e2 he _ (by omega) (by omega))) F81.l fun a82 u82 h135_82 => ?_
  have F82 := F81.pt u82
  have h132_82 := u82.w (u81.w (u80.w h132_79))
  refine wl_cl (args := #[(.int .u64 m), (.int .i64 e2)]) (R := fun v w' => v = .tuple #[.int .u64 d, .int .i64 (-(p - 1))] ∧ w2.grownBy w' none) (ex_cl (fun _ _ => by kernel_rfl) (arg2 h132_82 h135_82)) ((short64_any hS w2 TP_2 (Nat.lt_of_lt_of_le hgt Hb_2)).mono fun _ _ h => ⟨_, h.1, rfl, h.2⟩) F82.l ?_
  rintro v w3 ⟨rfl, G3⟩
  have B16_3 := B16_2.gn G3
  have R_3 := R_2.gn G3
  have TP_3 := TP_2.gn G3 (Nat.lt_of_lt_of_le hgt Hb_2)
  have Bl_3 := below_gn Bl_2 Hb_2 G3
  have Hb_3 := Nat.le_trans Hb_2 G3.size
  intro a83 u83 h136_83
  have F83 := F82.pt u83
  refine wl_p (ex_mv h136_83) F83.l fun a84 u84 h131_84 => ?_
  have F84 := F83.pt u84
  refine wl_p (ex_ext (vs := #[(.int .u64 d), (.int .i64 (-(p - 1)))]) (v := (.int .u64 d)) h131_84 rfl) F84.l fun a85 u85 h137_85 => ?_
  have F85 := F84.pt u85
  refine wl_p (ex_ext (vs := #[(.int .u64 d), (.int .i64 (-(p - 1)))]) (v := (.int .i64 (-(p - 1)))) (u85.w h131_84) rfl) F85.l fun a86 u86 h138_86 => ?_
  have F86 := F85.pt u86
  refine wl_p (ex_as (u86.w h137_85)) F86.l fun a87 u87 h20_87 => ?_
  have F87 := F86.pt u87
  refine wl_p (ex_as (u87.w h138_86)) F87.l fun a88 u88 h21_88 => ?_
  have F88 := F87.pt u88
  change Code.wp _ _ _ _ _
  refine wp_seq ?_
  obtain ⟨w4, hw4⟩ : ∃ w, w = w3.drew := ⟨_, rfl⟩
  have G4 : w3.grownBy w4 none := hw4 ▸ grown_drew _
  have B16_4 := B16_3.gn G4
  have R_4 := R_3.gn G4
  have TP_4 := TP_3.gn G4 (Nat.lt_of_lt_of_le hgt Hb_3)
  have Bl_4 := below_gn Bl_3 Hb_3 G4
  have Hb_4 := Nat.le_trans Hb_3 G4.size
  refine rg_tree (S := fun _ => True) [] 11 hw4 ⟨rfl, by decide⟩ hmix (by kernel_rfl) (by kernel_rfl) (trivial) ?_
  have h16_88 := u88.w (u87.w (u86.w (u85.w (u84.w (u83.w (u82.w (u81.w (u80.w (u79.w (u78.w (u77.w (u76.w (u75.w (u74.w (u73.w (u72.w (u71.w (u70.w (u69.w (u68.w (u67.w h16_66)))))))))))))))))))))
  refine tree_take (j := 0) rfl (by kernel_rfl) (by kernel_rfl) (by kernel_rfl) (fun w hw => ex_sl (v := .slice (some ⟨g16, 0, none⟩) 32 32) h16_88 rfl rfl rfl (sl154_run g16 _)) (trivial) F88.l fun a89 u89 h140_89 => ?_
  have F89 := F88.pt u89
  refine tree_take (j := 1) rfl (by kernel_rfl) (by kernel_rfl) (by kernel_rfl) (fun w hw => ex_mv (u89.w (u88.w h20_87))) (trivial) F89.l fun a90 u90 h141_90 => ?_
  have F90 := F89.pt u90
  refine tree_take (j := 2) rfl (by kernel_rfl) (by kernel_rfl) (by kernel_rfl) (fun w hw => ex_mv (u90.w (u89.w h21_88))) (trivial) F90.l fun a91 u91 h142_91 => ?_
  have F91 := F90.pt u91
  have h20_91 := u91.w (u90.w (u89.w (u88.w h20_87)))
  refine tree_take (j := 3) rfl (by kernel_rfl) (by kernel_rfl) (by kernel_rfl) (fun w hw => ex_mv h20_91) (trivial) F91.l fun a92 u92 h143_92 => ?_
  have F92 := F91.pt u92
  refine tree1 (j := 4) (by kernel_rfl) ?_
  refine tk_cl (args := #[(.int .u64 d)]) (R := fun v w' => v = .int .i64 (Lib.nDigits d) ∧ w4 = w') rfl (ex_cl (fun _ _ => by kernel_rfl) (arg1 h143_92)) ((numD_any d w4 hd1 (by omega) TP_4).mono fun _ _ h => ⟨_, h.1, rfl, h.2.symm⟩) F92.l ?_
  rintro v w' ⟨rfl, rfl⟩
  refine ⟨trivial, ?_⟩
  intro a93 u93 h144_93
  have F93 := F92.pt u93
  refine tree1 (j := 5) (by kernel_rfl) ?_
  have h140_93 := u93.w (u92.w (u91.w (u90.w h140_89)))
  have h141_93 := u93.w (u92.w (u91.w h141_90))
  refine tk_cl (args := #[(.slice (some ⟨g16, 0, none⟩) 32 32), (.int .u64 d), (.int .i64 (-(p - 1))), (.int .i64 (Lib.nDigits d))]) (R := fun v w' => v = .tuple #[.int .i64 dp, .int .i64 tr.length] ∧ (∃ cs, Blk w' g16 154 cs ∧ ∀ j (h : j < tr.length), cs[j]? = some (.int .u8 (tr[j].toNat))) ∧ w4.grownBy w' (some g16)) rfl (ex_cl (fun _ _ => by kernel_rfl) (arg4 h140_93 h141_93 (u93.w (u92.w h142_91)) h144_93)) ((setD_any g16 154 32 d z (-(p - 1)) tr w4 (Blk.to B16_4 (by kernel_rfl)) hd1 hd2 (by decide) (by decide) hpp hdig htr0 hlast).mono fun _ _ h => ⟨_, h.1.trans (by rw [hdp]), rfl, h.2⟩) F93.l ?_
  rintro v w5 ⟨rfl, ⟨cs, B16_5, hcs⟩, G5⟩
  have R_5 := R_4.gk B16_4 (by decide) G5
  have TP_5 := TP_4.gk G5 (Nat.lt_of_lt_of_le hgt hgB) (Nat.lt_of_lt_of_le hgt Hb_4)
  have Bl_5 := below_gs Bl_4 Hb_4 G5 hgB
  have Hb_5 := Nat.le_trans Hb_4 G5.size
  refine ⟨trivial, ?_⟩
  intro a94 u94 h145_94
  have F94 := F93.pt u94
  refine tree_take (j := 6) rfl (by kernel_rfl) (by kernel_rfl) (by kernel_rfl) (fun w hw => ex_mv h145_94) (trivial) F94.l fun a95 u95 h139_95 => ?_
  have F95 := F94.pt u95
  refine tree_take (j := 7) rfl (by kernel_rfl) (by kernel_rfl) (by kernel_rfl) (fun w hw => ex_ext (vs := #[(.int .i64 dp), (.int .i64 tr.length)]) (v := (.int .i64 dp)) h139_95 rfl) (trivial) F95.l fun a96 u96 h146_96 => ?_
  have F96 := F95.pt u96
  refine tree_take (j := 8) rfl (by kernel_rfl) (by kernel_rfl) (by kernel_rfl) (fun w hw => ex_ext (vs := #[(.int .i64 dp), (.int .i64 tr.length)]) (v := (.int .i64 tr.length)) (u96.w h139_95) rfl) (trivial) F96.l fun a97 u97 h147_97 => ?_
  have F97 := F96.pt u97
  refine tree_take (j := 9) rfl (by kernel_rfl) (by kernel_rfl) (by kernel_rfl) (fun w hw => ex_as (u97.w h146_96)) (trivial) F97.l fun a98 u98 h22_98 => ?_
  have F98 := F97.pt u98
  refine tree_take (j := 10) rfl (by kernel_rfl) (by kernel_rfl) (by kernel_rfl) (fun w hw => ex_as (u98.w h147_97)) (trivial) F98.l fun a99 u99 h23_99 => ?_
  have F99 := F98.pt u99
  refine tree0 (by kernel_rfl) ?_
  change Code.wp _ _ _ _ _
  refine wp_seq ?_
  refine wp_seq ?_
  refine rg_list ?_
  have h2_99 := u99.w (u98.w (u97.w (u96.w (u95.w (u94.w (u93.w (u92.w (u91.w (u90.w (u89.w (u88.w (u87.w (u86.w (u85.w (u84.w (u83.w (u82.w (u81.w (u80.w (u79.w (u78.w (u77.w (u76.w (u75.w (u74.w (u73.w (u72.w (u71.w (u70.w (u69.w (u68.w (u67.w (u66.w (u65.w (u64.w (u63.w (u62.w (u61.w (u60.w (u59.w h2_58))))))))))))))))))))))))))))))))))))))))
  refine wl_p (ex_mv h2_99) F99.l fun a100 u100 h148_100 => ?_
  have F100 := F99.pt u100
  change Code.wp _ _ _ _ _
  refine wp_block ?_
  refine wp_seq ?_
  refine wp_seq ?_
  refine rg_list ?_
  refine wl_p (ex_bin (vy := (.int .u8 101)) (v := (.bool false)) h148_100 rfl (by kernel_rfl)) F100.l fun a101 u101 h150_101 => ?_
  have F101 := F100.pt u101
  refine wl_p (ex_as h150_101) F101.l fun a102 u102 h149_102 => ?_
  have F102 := F101.pt u102
  change Code.wp _ _ _ _ _
  refine wp_cond_false h149_102 ?_
  refine rg_list ?_
  refine wl_p (ex_bin (vy := (.int .u8 69)) (v := (.bool false)) (u102.w (u101.w h148_100)) rfl (by kernel_rfl)) F102.l fun a103 u103 h151_103 => ?_
  have F103 := F102.pt u103
  refine wl_p (ex_as h151_103) F103.l fun a104 u104 h149_104 => ?_
  have F104 := F103.pt u104
  change Code.wp _ _ _ _ _
  refine wp_cond_false h149_104 ?_
  refine wp_seq ?_
  refine rg_list ?_
  have h148_104 := u104.w (u103.w (u102.w (u101.w h148_100)))
  refine wl_p (ex_bin (vy := (.int .u8 102)) (v := (.bool true)) h148_104 rfl (by kernel_rfl)) F104.l fun a105 u105 h156_105 => ?_
  have F105 := F104.pt u105
  refine wl_p (ex_as h156_105) F105.l fun a106 u106 h155_106 => ?_
  have F106 := F105.pt u106
  change Code.wp _ _ _ _ _
  refine wp_cond_true h155_106 ?_
  refine rg_list ?_
  have h23_106 := u106.w (u105.w (u104.w (u103.w (u102.w (u101.w (u100.w h23_99))))))
  refine wl_p (ex_mv h23_106) F106.l fun a107 u107 h157_107 => ?_
  have F107 := F106.pt u107
  have h22_107 := u107.w (u106.w (u105.w (u104.w (u103.w (u102.w (u101.w (u100.w (u99.w h22_98))))))))
  refine wl_p (ex_mv h22_107) F107.l fun a108 u108 h158_108 => ?_
  have F108 := F107.pt u108
  refine wl_p (ex_bin (v := (.int .i64 ((tr.length : Int) - dp))) (u108.w h157_107) h158_108 (bo_subz_r tr.length dp ((tr.length : Int) - dp) rfl _ (by omega) (by omega))) F108.l fun a109 u109 h159_109 => ?_
  have F109 := F108.pt u109
  refine wl_p (ex_bi (w' := w5) (args := #[(.int .i64 ((tr.length : Int) - dp)), (.int .i64 0)]) (v := .int .i64 (tr.length - dp : Nat)) (arg2 h159_109 rfl) (maxz_run _ _ (by omega) _)) F109.l fun a110 u110 h160_110 => ?_
  have F110 := F109.pt u110
  refine wl_p (ex_as h160_110) F110.l fun a111 u111 h3_111 => ?_
  have F111 := F110.pt u111
  change Code.wp _ _ _ _ _
  refine wp_seq ?_
  refine rg_list ?_
  have h0_111 := u111.w (u110.w (u109.w (u108.w (u107.w (u106.w (u105.w (u104.w (u103.w (u102.w (u101.w (u100.w (u99.w (u98.w (u97.w (u96.w (u95.w (u94.w (u93.w (u92.w (u91.w (u90.w (u89.w (u88.w (u87.w (u86.w (u85.w (u84.w (u83.w (u82.w (u81.w (u80.w (u79.w (u78.w (u77.w (u76.w (u75.w (u74.w (u73.w (u72.w (u71.w (u70.w (u69.w (u68.w (u67.w (u66.w (u65.w (u64.w (u63.w (u62.w (u61.w (u60.w (u59.w (u58.w (u57.w (u56.w (u55.w (u54.w (u53.w (u52.w (u51.w (u50.w (u49.w (u48.w (u47.w (u46.w (u45.w (u44.w (u43.w (u42.w (u41.w (u40.w (u39.w (u38.w (u37.w (u36.w (u35.w (u34.w (u33.w (u32.w (u31.w (u30.w (u29.w (u28.w (u27.w (u26.w (u25.w (u24.w (u23.w (u22.w (u21.w (u20.w (u19.w (u18.w (u17.w (u16.w (u15.w (u14.w (u13.w (u12.w (u11.w (u10.w (u9.w (u8.w (u7.w (u6.w (u5.w (u4.w (u3.w (u2.w (u1.w h0_0))))))))))))))))))))))))))))))))))))))))))))))))))))))))))))))))))))))))))))))))))))))))))))))))))))))))))))))
  refine wl_p (ex_mv h0_111) F111.l fun a112 u112 h165_112 => ?_
  have F112 := F111.pt u112
  have h13_112 := u112.w (u111.w (u110.w (u109.w (u108.w (u107.w (u106.w (u105.w (u104.w (u103.w (u102.w (u101.w (u100.w (u99.w (u98.w (u97.w (u96.w (u95.w (u94.w (u93.w (u92.w (u91.w (u90.w (u89.w (u88.w (u87.w (u86.w (u85.w (u84.w (u83.w (u82.w (u81.w (u80.w (u79.w (u78.w (u77.w (u76.w (u75.w (u74.w (u73.w (u72.w (u71.w (u70.w (u69.w (u68.w (u67.w (u66.w (u65.w (u64.w (u63.w (u62.w (u61.w (u60.w (u59.w (u58.w (u57.w (u56.w (u55.w (u54.w (u53.w (u52.w (u51.w (u50.w (u49.w (u48.w (u47.w (u46.w (u45.w (u44.w (u43.w (u42.w (u41.w (u40.w (u39.w (u38.w (u37.w (u36.w (u35.w (u34.w (u33.w (u32.w (u31.w (u30.w (u29.w (u28.w (u27.w (u26.w (u25.w (u24.w (u23.w h13_22)))))))))))))))))))))))))))))))))))))))))))))))))))))))))))))))))))))))))))))))))))))))))
  refine wl_p (ex_mv h13_112) F112.l fun a113 u113 h166_113 => ?_
  have F113 := F112.pt u113
  have h16_113 := u113.w (u112.w (u111.w (u110.w (u109.w (u108.w (u107.w (u106.w (u105.w (u104.w (u103.w (u102.w (u101.w (u100.w (u99.w (u98.w (u97.w (u96.w (u95.w (u94.w (u93.w (u92.w (u91.w (u90.w (u89.w h16_88))))))))))))))))))))))))
  refine wl_p (ex_sl (v := .slice (some ⟨g16, 0, none⟩) 32 32) h16_113 rfl rfl rfl (sl154_run g16 _)) F113.l fun a114 u114 h167_114 => ?_
  have F114 := F113.pt u114
  have h22_114 := u114.w (u113.w (u112.w (u111.w (u110.w (u109.w (u108.w h22_107))))))
  refine wl_p (ex_mv h22_114) F114.l fun a115 u115 h168_115 => ?_
  have F115 := F114.pt u115
  have h23_115 := u115.w (u114.w (u113.w (u112.w (u111.w (u110.w (u109.w (u108.w (u107.w h23_106))))))))
  refine wl_p (ex_mv h23_115) F115.l fun a116 u116 h169_116 => ?_
  have F116 := F115.pt u116
  have h3_116 := u116.w (u115.w (u114.w (u113.w (u112.w h3_111))))
  refine wl_p (ex_mv h3_116) F116.l fun a117 u117 h170_117 => ?_
  have F117 := F116.pt u117
  have h2_117 := u117.w (u116.w (u115.w (u114.w (u113.w (u112.w (u111.w (u110.w (u109.w (u108.w (u107.w (u106.w (u105.w (u104.w (u103.w (u102.w (u101.w (u100.w h2_99)))))))))))))))))
  refine wl_p (ex_mv h2_117) F117.l fun a118 u118 h171_118 => ?_
  have F118 := F117.pt u118
  have h165_118 := u118.w (u117.w (u116.w (u115.w (u114.w (u113.w h165_112)))))
  have h166_118 := u118.w (u117.w (u116.w (u115.w (u114.w h166_113))))
  have h167_118 := u118.w (u117.w (u116.w (u115.w h167_114)))
  have h168_118 := u118.w (u117.w (u116.w h168_115))
  refine wl_cl (args := #[v0, (.bool false), (.slice (some ⟨g16, 0, none⟩) 32 32), (.int .i64 dp), (.int .i64 tr.length), (.int .i64 (tr.length - dp : Nat)), (.int .u8 102), (.bool true)]) (R := fun v w' => BRow w' B v (l ++ efgT tr dp (tr.length - dp)) ∧ Below B w5 w') (ex_cl (fun _ _ => by kernel_rfl) (arg8 h165_118 h166_118 h167_118 h168_118 (u118.w (u117.w h169_116)) (u118.w h170_117) h171_118 rfl)) ((fmtEFG_any (ds := tr) (dp := dp) (prec := tr.length - dp) R_5 (Or.inr ⟨g16, 154, 32, cs, by decide, rfl, by omega, B16_5, hcs⟩) Hb_5 (by omega) (by omega) (by omega) (by omega) hl).mono fun _ _ ⟨v, h1, h2, h3, _⟩ => ⟨v, h1, h2, h3⟩) F118.l ?_
  rintro vf w6 ⟨Rf, Blf⟩
  intro a119 u119 h172_119
  have F119 := F118.pt u119
  refine wl_p (ex_as h172_119) F119.l fun a120 u120 h8_120 => ?_
  have F120 := F119.pt u120
  change Code.wp _ _ _ _ _
  refine wp_ret ?_
  try simp only [Exit.then, Exit.inBlock]
  exact bodyPost_ret (v := vf) ((results_tmp rfl _ _ _).trans (by rw [h8_120])) F120.defers ⟨_, rfl, Rf, Bl_5.trans Blf⟩
theorem ftoa32_zero {x B : Nat} {l : List UInt8} {v0 : Value} {w0 : World} (h1 : (x : Int) / 2 ^ 31 = 0) (h2 : (x : Int) / 2 ^ 23 = 0) (h4 : bits .and .u64 x 8388607 = 0) (hx : x < 4294967296) (hR : BRow w0 B v0 l) (hB : B ≤ w0.heap.size) (hl : l.length ≤ 20) (ht : TabP w0) (hgt : 7 < B) :
    Calls Tryz.prog 68 #[v0, .float .f32 x, .int .u8 102, .int .i64 3] w0 fun e w' => ∃ v, e = .returned v ∧ BRow w' B v (l ++ efgT [] 0 3) ∧ Below B w0 w' := by
  refine calls_of_wp Tryz.func68 rfl ?_
  generalize hA : Act.mk _ _ = a0
  have F0 : Fz 298 a0 := by subst hA; exact ⟨by simp [Tryz.ntmps68], rfl⟩
  have h0_0 : a0.tmps.getD 0 undef = v0 := by subst hA; exact fr_arg rfl
  have h1_0 : a0.tmps.getD 1 undef = (.float .f32 x) := by subst hA; exact fr_arg rfl
  have h2_0 : a0.tmps.getD 2 undef = (.int .u8 102) := by subst hA; exact fr_arg rfl
  have h3_0 : a0.tmps.getD 3 undef = (.int .i64 3) := by subst hA; exact fr_arg rfl
  clear hA
  have R_0 := hR
  have TP_0 := ht
  have Bl_0 := Below.refl B w0
  have Hb_0 := hB
  refine wp_seq ?_
  refine rg_list ?_
  refine wl_p (ex_as (v := (.slice none 0 0)) rfl) F0.l fun a1 u1 h8_1 => ?_
  have F1 := F0.pt u1
  change Code.wp _ _ _ _ _
  refine wp_seq ?_
  refine rg_list ?_
  refine wl_p (ex_as (v := (.int .u64 0)) rfl) F1.l fun a2 u2 h9_2 => ?_
  have F2 := F1.pt u2
  change Code.wp _ _ _ _ _
  refine wp_seq ?_
  refine rg_list ?_
  refine wl_p (ex_as (v := (.int .i64 0)) rfl) F2.l fun a3 u3 h10_3 => ?_
  have F3 := F2.pt u3
  refine wl_p (ex_as (v := (.int .i64 0)) rfl) F3.l fun a4 u4 h11_4 => ?_
  have F4 := F3.pt u4
  refine wl_p (ex_as (v := (.int .i64 0)) rfl) F4.l fun a5 u5 h12_5 => ?_
  have F5 := F4.pt u5
  change Code.wp _ _ _ _ _
  refine wp_seq ?_
  refine wp_block ?_
  refine wp_seq ?_
  refine rg_list ?_
  refine wl_p (ex_bin (vx := (.int .u64 32)) (vy := (.int .u64 32)) (v := (.bool true)) rfl rfl (by kernel_rfl)) F5.l fun a6 u6 h35_6 => ?_
  have F6 := F5.pt u6
  refine wl_p (ex_as h35_6) F6.l fun a7 u7 h34_7 => ?_
  have F7 := F6.pt u7
  change Code.wp _ _ _ _ _
  refine wp_cond_true h34_7 ?_
  refine wp_seq ?_
  refine rg_list ?_
  have h1_7 := u7.w (u6.w (u5.w (u4.w (u3.w (u2.w (u1.w h1_0))))))
  refine wl_p (ex_mv h1_7) F7.l fun a8 u8 h36_8 => ?_
  have F8 := F7.pt u8
  refine wl_p (ex_extn (arg1 h36_8) (fbits32 x _)) F8.l fun a9 u9 (h37_9 : a9.tmps.getD 37 undef = (.int .u32 x)) => ?_
  have F9 := F8.pt u9
  refine wl_p (ex_conv (vx := (.int .u32 x)) (v := (.int .u64 x)) h37_9 (cv_u32_u64 x (by omega) (by omega) _)) F9.l fun a10 u10 h38_10 => ?_
  have F10 := F9.pt u10
  refine wl_p (ex_as h38_10) F10.l fun a11 u11 h9_11 => ?_
  have F11 := F10.pt u11
  change Code.wp _ _ _ _ _
  refine wp_seq ?_
  refine rg_list ?_
  refine wl_p (ex_as (v := (.int .i64 8)) rfl) F11.l fun a12 u12 h10_12 => ?_
  have F12 := F11.pt u12
  change Code.wp _ _ _ _ _
  refine wp_seq ?_
  refine rg_list ?_
  refine wl_p (ex_as (v := (.int .i64 23)) rfl) F12.l fun a13 u13 h11_13 => ?_
  have F13 := F12.pt u13
  change Code.wp _ _ _ _ _
  refine rg_list ?_
  refine wl_p (ex_as (v := (.int .i64 (-127))) rfl) F13.l fun a14 u14 h12_14 => ?_
  have F14 := F13.pt u14
  change Code.wp _ _ _ _ _
  refine wp_seq ?_
  refine rg_list ?_
  have h9_14 := u14.w (u13.w (u12.w h9_11))
  refine wl_p (ex_mv h9_14) F14.l fun a15 u15 h44_15 => ?_
  have F15 := F14.pt u15
  have h10_15 := u15.w (u14.w (u13.w h10_12))
  refine wl_p (ex_mv h10_15) F15.l fun a16 u16 h45_16 => ?_
  have F16 := F15.pt u16
  have h11_16 := u16.w (u15.w (u14.w h11_13))
  refine wl_p (ex_mv h11_16) F16.l fun a17 u17 h46_17 => ?_
  have F17 := F16.pt u17
  refine wl_p (ex_bin (v := (.int .i64 31)) (u17.w h45_16) h46_17 (by kernel_rfl)) F17.l fun a18 u18 h47_18 => ?_
  have F18 := F17.pt u18
  have h44_18 := u18.w (u17.w (u16.w h44_15))
  refine wl_p (ex_bin (v := (.int .u64 0)) h44_18 h47_18 (bo_shr_r x 0 31 (by decide) h1 _)) F18.l fun a19 u19 h48_19 => ?_
  have F19 := F18.pt u19
  refine wl_p (ex_bin (vy := (.int .u64 0)) (v := (.bool false)) h48_19 rfl (by kernel_rfl)) F19.l fun a20 u20 h49_20 => ?_
  have F20 := F19.pt u20
  refine wl_p (ex_as h49_20) F20.l fun a21 u21 h13_21 => ?_
  have F21 := F20.pt u21
  change Code.wp _ _ _ _ _
  refine wp_seq ?_
  obtain ⟨w1, hw1⟩ : ∃ w, w = w0.drew := ⟨_, rfl⟩
  have G1 : w0.grownBy w1 none := hw1 ▸ grown_drew _
  have R_1 := R_0.gn G1
  have TP_1 := TP_0.gn G1 (Nat.lt_of_lt_of_le hgt Hb_0)
  have Bl_1 := below_gn Bl_0 Hb_0 G1
  have Hb_1 := Nat.le_trans Hb_0 G1.size
  refine rg_still hw1 hmix (by kernel_rfl) ?_
  have h9_21 := u21.w (u20.w (u19.w (u18.w (u17.w (u16.w (u15.w h9_14))))))
  refine st_p (ex_mv h9_21) F21.l fun a22 u22 h50_22 => ?_
  have F22 := F21.pt u22
  have h11_22 := u22.w (u21.w (u20.w (u19.w (u18.w (u17.w h11_16)))))
  refine st_p (ex_mv h11_22) F22.l fun a23 u23 h51_23 => ?_
  have F23 := F22.pt u23
  refine st_p (ex_bin (v := (.int .u64 0)) (u23.w h50_22) h51_23 (bo_shr_r x 0 23 (by decide) h2 _)) F23.l fun a24 u24 h52_24 => ?_
  have F24 := F23.pt u24
  refine st_p (ex_conv (vx := (.int .u64 0)) (v := (.int .i64 0)) h52_24 (cv_u64_i 0 (by decide) (by decide) _)) F24.l fun a25 u25 h53_25 => ?_
  have F25 := F24.pt u25
  have h10_25 := u25.w (u24.w (u23.w (u22.w (u21.w (u20.w (u19.w (u18.w (u17.w (u16.w h10_15)))))))))
  refine st_p (ex_mv h10_25) F25.l fun a26 u26 h54_26 => ?_
  have F26 := F25.pt u26
  refine st_p (ex_bin (vx := (.int .i64 1)) (v := (.int .i64 256)) rfl h54_26 (by kernel_rfl)) F26.l fun a27 u27 h55_27 => ?_
  have F27 := F26.pt u27
  refine st_p (ex_bin (vy := (.int .i64 1)) (v := (.int .i64 255)) h55_27 rfl (by kernel_rfl)) F27.l fun a28 u28 h56_28 => ?_
  have F28 := F27.pt u28
  have h53_28 := u28.w (u27.w (u26.w h53_25))
  refine st_p (ex_bin (v := (.int .i64 0)) h53_28 h56_28 (bo_andi_r 0 255 0 (by decide) _)) F28.l fun a29 u29 h57_29 => ?_
  have F29 := F28.pt u29
  refine st_p (ex_as h57_29) F29.l fun a30 u30 h14_30 => ?_
  have F30 := F29.pt u30
  change Code.wp _ _ _ _ _
  refine wp_seq ?_
  refine rg_list ?_
  have h9_30 := u30.w (u29.w (u28.w (u27.w (u26.w (u25.w (u24.w (u23.w (u22.w h9_21))))))))
  refine wl_p (ex_mv h9_30) F30.l fun a31 u31 h58_31 => ?_
  have F31 := F30.pt u31
  have h11_31 := u31.w (u30.w (u29.w (u28.w (u27.w (u26.w (u25.w (u24.w (u23.w h11_22))))))))
  refine wl_p (ex_mv h11_31) F31.l fun a32 u32 h59_32 => ?_
  have F32 := F31.pt u32
  refine wl_p (ex_bin (vx := (.int .u64 1)) (v := (.int .u64 8388608)) rfl h59_32 (by kernel_rfl)) F32.l fun a33 u33 h60_33 => ?_
  have F33 := F32.pt u33
  refine wl_p (ex_bin (vy := (.int .u64 1)) (v := (.int .u64 8388607)) h60_33 rfl (by kernel_rfl)) F33.l fun a34 u34 h61_34 => ?_
  have F34 := F33.pt u34
  have h58_34 := u34.w (u33.w (u32.w h58_31))
  refine wl_p (ex_bin (v := (.int .u64 0)) h58_34 h61_34 (bo_andu_r x 8388607 0 h4 _)) F34.l fun a35 u35 h62_35 => ?_
  have F35 := F34.pt u35
  refine wl_p (ex_as h62_35) F35.l fun a36 u36 h15_36 => ?_
  have F36 := F35.pt u36
  change Code.wp _ _ _ _ _
  refine wp_seq ?_
  refine wp_seq ?_
  refine rg_list ?_
  have h14_36 := u36.w (u35.w (u34.w (u33.w (u32.w (u31.w h14_30)))))
  refine wl_p (ex_mv h14_36) F36.l fun a37 u37 h63_37 => ?_
  have F37 := F36.pt u37
  have h10_37 := u37.w (u36.w (u35.w (u34.w (u33.w (u32.w (u31.w (u30.w (u29.w (u28.w (u27.w (u26.w h10_25)))))))))))
  refine wl_p (ex_mv h10_37) F37.l fun a38 u38 h64_38 => ?_
  have F38 := F37.pt u38
  refine wl_p (ex_bin (vx := (.int .i64 1)) (v := (.int .i64 256)) rfl h64_38 (by kernel_rfl)) F38.l fun a39 u39 h65_39 => ?_
  have F39 := F38.pt u39
  refine wl_p (ex_bin (vy := (.int .i64 1)) (v := (.int .i64 255)) h65_39 rfl (by kernel_rfl)) F39.l fun a40 u40 h66_40 => ?_
  have F40 := F39.pt u40
  have h63_40 := u40.w (u39.w (u38.w h63_37))
  refine wl_p (ex_bin (v := (.bool false)) h63_40 h66_40 (by kernel_rfl)) F40.l fun a41 u41 h67_41 => ?_
  have F41 := F40.pt u41
  change Code.wp _ _ _ _ _
  refine wp_cond_false h67_41 ?_
  refine wp_skip ?_
  change Code.wp _ _ _ _ _
  refine wp_seq ?_
  refine wp_seq ?_
  refine rg_list ?_
  have h14_41 := u41.w (u40.w (u39.w (u38.w (u37.w h14_36))))
  refine wl_p (ex_mv h14_41) F41.l fun a42 u42 h77_42 => ?_
  have F42 := F41.pt u42
  refine wl_p (ex_bin (vy := (.int .i64 0)) (v := (.bool true)) h77_42 rfl (by kernel_rfl)) F42.l fun a43 u43 h78_43 => ?_
  have F43 := F42.pt u43
  change Code.wp _ _ _ _ _
  refine wp_cond_true h78_43 ?_
  refine rg_list ?_
  refine wl_p (ex_mv (u43.w (u42.w h14_41))) F43.l fun a44 u44 h79_44 => ?_
  have F44 := F43.pt u44
  refine wl_p (ex_bin (vy := (.int .i64 1)) (v := (.int .i64 1)) h79_44 rfl (by kernel_rfl)) F44.l fun a45 u45 h80_45 => ?_
  have F45 := F44.pt u45
  refine wl_p (ex_as h80_45) F45.l fun a46 u46 h14_46 => ?_
  have F46 := F45.pt u46
  change Code.wp _ _ _ _ _
  refine wp_seq ?_
  refine rg_list ?_
  refine wl_p (ex_mv h14_46) F46.l fun a47 u47 h85_47 => ?_
  have F47 := F46.pt u47
  have h12_47 := u47.w (u46.w (u45.w (u44.w (u43.w (u42.w (u41.w (u40.w (u39.w (u38.w (u37.w (u36.w (u35.w (u34.w (u33.w (u32.w (u31.w (u30.w (u29.w (u28.w (u27.w (u26.w (u25.w (u24.w (u23.w (u22.w (u21.w (u20.w (u19.w (u18.w (u17.w (u16.w (u15.w h12_14))))))))))))))))))))))))))))))))
  refine wl_p (ex_mv h12_47) F47.l fun a48 u48 h86_48 => ?_
  have F48 := F47.pt u48
  refine wl_p (ex_bin (v := (.int .i64 (-126))) (u48.w h85_47) h86_48 (by kernel_rfl)) F48.l fun a49 u49 h87_49 => ?_
  have F49 := F48.pt u49
  refine wl_p (ex_as h87_49) F49.l fun a50 u50 h14_50 => ?_
  have F50 := F49.pt u50
  change Code.wp _ _ _ _ _
  refine wp_seq ?_
  refine wp_seq ?_
  refine rg_list ?_
  have h2_50 := u50.w (u49.w (u48.w (u47.w (u46.w (u45.w (u44.w (u43.w (u42.w (u41.w (u40.w (u39.w (u38.w (u37.w (u36.w (u35.w (u34.w (u33.w (u32.w (u31.w (u30.w (u29.w (u28.w (u27.w (u26.w (u25.w (u24.w (u23.w (u22.w (u21.w (u20.w (u19.w (u18.w (u17.w (u16.w (u15.w (u14.w (u13.w (u12.w (u11.w (u10.w (u9.w (u8.w (u7.w (u6.w (u5.w (u4.w (u3.w (u2.w (u1.w h2_0)))))))))))))))))))))))))))))))))))))))))))))))))
  refine wl_p (ex_mv h2_50) F50.l fun a51 u51 h88_51 => ?_
  have F51 := F50.pt u51
  refine wl_p (ex_bin (vy := (.int .u8 98)) (v := (.bool false)) h88_51 rfl (by kernel_rfl)) F51.l fun a52 u52 h89_52 => ?_
  have F52 := F51.pt u52
  change Code.wp _ _ _ _ _
  refine wp_cond_false h89_52 ?_
  refine wp_skip ?_
  change Code.wp _ _ _ _ _
  refine wp_seq ?_
  refine wp_seq ?_
  refine rg_list ?_
  refine wl_p (ex_mv (u52.w (u51.w h2_50))) F52.l fun a53 u53 h97_53 => ?_
  have F53 := F52.pt u53
  refine wl_p (ex_bin (vy := (.int .u8 120)) (v := (.bool false)) h97_53 rfl (by kernel_rfl)) F53.l fun a54 u54 h98_54 => ?_
  have F54 := F53.pt u54
  refine wl_p (ex_mv h98_54) F54.l fun a55 u55 h99_55 => ?_
  have F55 := F54.pt u55
  have h2_55 := u55.w (u54.w (u53.w (u52.w (u51.w h2_50))))
  refine wl_g (yl (e := 99) rfl h99_55) (ex_mv h2_55) F55.l fun a56 u56 h100_56 => ?_
  have F56 := F55.pt u56
  refine wl_g (yl (e := 99) rfl (u56.w h99_55)) (ex_bin (vy := (.int .u8 88)) (v := (.bool false)) h100_56 rfl (by kernel_rfl)) F56.l fun a57 u57 h101_57 => ?_
  have F57 := F56.pt u57
  refine wl_p (ex_pick (q := false) (u57.w (u56.w h99_55)) h101_57) F57.l fun a58 u58 h102_58 => ?_
  have F58 := F57.pt u58
  change Code.wp _ _ _ _ _
  refine wp_cond_false h102_58 ?_
  refine wp_skip ?_
  change Code.wp _ _ _ _ _
  refine wp_seq ?_
  refine wp_seq ?_
  refine rg_list ?_
  have h15_58 := u58.w (u57.w (u56.w (u55.w (u54.w (u53.w (u52.w (u51.w (u50.w (u49.w (u48.w (u47.w (u46.w (u45.w (u44.w (u43.w (u42.w (u41.w (u40.w (u39.w (u38.w (u37.w h15_36)))))))))))))))))))))
  refine wl_p (ex_mv h15_58) F58.l fun a59 u59 h111_59 => ?_
  have F59 := F58.pt u59
  refine wl_p (ex_bin (vy := (.int .u64 0)) (v := (.bool true)) h111_59 rfl (by kernel_rfl)) F59.l fun a60 u60 h112_60 => ?_
  have F60 := F59.pt u60
  change Code.wp _ _ _ _ _
  refine wp_cond_true h112_60 ?_
  refine wp_seq ?_
  refine rg_list ?_
  have h0_60 := u60.w (u59.w (u58.w (u57.w (u56.w (u55.w (u54.w (u53.w (u52.w (u51.w (u50.w (u49.w (u48.w (u47.w (u46.w (u45.w (u44.w (u43.w (u42.w (u41.w (u40.w (u39.w (u38.w (u37.w (u36.w (u35.w (u34.w (u33.w (u32.w (u31.w (u30.w (u29.w (u28.w (u27.w (u26.w (u25.w (u24.w (u23.w (u22.w (u21.w (u20.w (u19.w (u18.w (u17.w (u16.w (u15.w (u14.w (u13.w (u12.w (u11.w (u10.w (u9.w (u8.w (u7.w (u6.w (u5.w (u4.w (u3.w (u2.w (u1.w h0_0)))))))))))))))))))))))))))))))))))))))))))))))))))))))))))
  refine wl_p (ex_mv h0_60) F60.l fun a61 u61 h113_61 => ?_
  have F61 := F60.pt u61
  have h13_61 := u61.w (u60.w (u59.w (u58.w (u57.w (u56.w (u55.w (u54.w (u53.w (u52.w (u51.w (u50.w (u49.w (u48.w (u47.w (u46.w (u45.w (u44.w (u43.w (u42.w (u41.w (u40.w (u39.w (u38.w (u37.w (u36.w (u35.w (u34.w (u33.w (u32.w (u31.w (u30.w (u29.w (u28.w (u27.w (u26.w (u25.w (u24.w (u23.w (u22.w h13_21)))))))))))))))))))))))))))))))))))))))
  refine wl_p (ex_mv h13_61) F61.l fun a62 u62 h114_62 => ?_
  have F62 := F61.pt u62
  have h3_62 := u62.w (u61.w (u60.w (u59.w (u58.w (u57.w (u56.w (u55.w (u54.w (u53.w (u52.w (u51.w (u50.w (u49.w (u48.w (u47.w (u46.w (u45.w (u44.w (u43.w (u42.w (u41.w (u40.w (u39.w (u38.w (u37.w (u36.w (u35.w (u34.w (u33.w (u32.w (u31.w (u30.w (u29.w (u28.w (u27.w (u26.w (u25.w (u24.w (u23.w (u22.w (u21.w (u20.w (u19.w (u18.w (u17.w (u16.w (u15.w (u14.w (u13.w (u12.w (u11.w (u10.w (u9.w (u8.w (u7.w (u6.w (u5.w (u4.w (u3.w (u2.w (u1.w h3_0)))))))))))))))))))))))))))))))))))))))))))))))))))))))))))))
  refine wl_p (ex_mv h3_62) F62.l fun a63 u63 h115_63 => ?_
  have F63 := F62.pt u63
  have h2_63 := u63.w (u62.w (u61.w (u60.w (u59.w (u58.w (u57.w (u56.w h2_55)))))))
  refine wl_p (ex_mv h2_63) F63.l fun a64 u64 h116_64 => ?_
  have F64 := F63.pt u64
  refine wl_p (ex_mv (u64.w (u63.w h3_62))) F64.l fun a65 u65 h117_65 => ?_
  have F65 := F64.pt u65
  refine wl_p (ex_bin (vy := (.int .i64 0)) (v := (.bool false)) h117_65 rfl (by kernel_rfl)) F65.l fun a66 u66 h118_66 => ?_
  have F66 := F65.pt u66
  have h113_66 := u66.w (u65.w (u64.w (u63.w (u62.w h113_61))))
  have h114_66 := u66.w (u65.w (u64.w (u63.w h114_62)))
  have h115_66 := u66.w (u65.w (u64.w h115_63))
  refine wl_cl (args := #[v0, (.bool false), (.slice none 0 0), (.int .i64 0), (.int .i64 0), (.int .i64 3), (.int .u8 102), (.bool false)]) (R := fun v w' => BRow w' B v (l ++ efgT [] 0 (3)) ∧ Below B w1 w') (ex_cl (fun _ _ => by kernel_rfl) (arg8 h113_66 h114_66 rfl rfl rfl h115_66 (u66.w (u65.w h116_64)) h118_66)) ((fmtEFG_any (ds := []) (dp := 0) (prec := 3) R_1 (Or.inl rfl) Hb_1 (by simp) (by simp) (by omega) (by omega) hl).mono fun _ _ ⟨v, h1, h2, h3, _⟩ => ⟨v, h1, h2, h3⟩) F66.l ?_
  rintro vf w2 ⟨Rf, Blf⟩
  intro a67 u67 h119_67
  have F67 := F66.pt u67
  refine wl_p (ex_as h119_67) F67.l fun a68 u68 h8_68 => ?_
  have F68 := F67.pt u68
  change Code.wp _ _ _ _ _
  refine wp_ret ?_
  try simp only [Exit.then, Exit.inBlock]
  exact bodyPost_ret (v := vf) ((results_tmp rfl _ _ _).trans (by rw [h8_68])) F68.defers ⟨_, rfl, Rf, Bl_1.trans Blf⟩
theorem ftoa32_pos {x d i hi lo z dp n tn B : Nat} {eb mt mant m e2 p s u : Int} {big : Bool} {tr l : List UInt8} {v0 : Value} {w0 : World} (h1 : (x : Int) / 2 ^ 31 = 0) (h2 : (x : Int) / 2 ^ 23 = eb) (h3 : bits .and .i64 eb 255 = eb) (h4 : bits .and .u64 x 8388607 = mt) (hx : x < 4294967296)
    (heb : 0 < eb ∧ eb < 255) (hex : 0 ≤ eb - 127) (hdg : 1 + (1 + (eb - 127)) * 78913 / 262144 + 3 = (n : Int)) (hn : n < 10) (h5 : bits .or .u64 mt 8388608 = mant) (hmant : 0 < mant ∧ mant < 18446744073709551616) (hbl : Lib.bitLen mant.toNat = 24) (h6 : wr (mant * 2 ^ 40) = m) (he : eb - 127 - 40 - 23 = e2)
    (hS : FxF m e2 p s u d n i hi lo tn big) (hd1 : 1 ≤ d) (hd2 : d < 1000000000000000000) (hpp : -100 ≤ (-3 : Int) ∧ (-3 : Int) ≤ 100) (hdig : Lib.decDigits d = tr ++ List.replicate z 48) (htr0 : 0 < tr.length) (htr30 : tr.length ≤ 20) (hlast : ∀ h, tr[tr.length - 1]'h ≠ 48) (hdp : (Lib.nDigits d : Int) + -3 = dp) (hdp30 : dp ≤ 20) (h0n : 0 < n)
    (hR : BRow w0 B v0 l) (hB : B ≤ w0.heap.size) (hl : l.length ≤ 20) (ht : TabP w0) (hgt : 7 < B) :
    Calls Tryz.prog 68 #[v0, .float .f32 x, .int .u8 102, .int .i64 3] w0 fun e w' => ∃ v, e = .returned v ∧ BRow w' B v (l ++ efgT tr dp 3) ∧ Below B w0 w' := by
  refine calls_of_wp Tryz.func68 rfl ?_
  generalize hA : Act.mk _ _ = a0
  have F0 : Fz 298 a0 := by subst hA; exact ⟨by simp [Tryz.ntmps68], rfl⟩
  have h0_0 : a0.tmps.getD 0 undef = v0 := by subst hA; exact fr_arg rfl
  have h1_0 : a0.tmps.getD 1 undef = (.float .f32 x) := by subst hA; exact fr_arg rfl
  have h2_0 : a0.tmps.getD 2 undef = (.int .u8 102) := by subst hA; exact fr_arg rfl
  have h3_0 : a0.tmps.getD 3 undef = (.int .i64 3) := by subst hA; exact fr_arg rfl
  clear hA
  have R_0 := hR
  have TP_0 := ht
  have Bl_0 := Below.refl B w0
  have Hb_0 := hB
  refine wp_seq ?_
  refine rg_list ?_
  refine wl_p (ex_as (v := (.slice none 0 0)) rfl) F0.l fun a1 u1 h8_1 => ?_
  have F1 := F0.pt u1
  change Code.wp _ _ _ _ _
  refine wp_seq ?_
  refine rg_list ?_
  refine wl_p (ex_as (v := (.int .u64 0)) rfl) F1.l fun a2 u2 h9_2 => ?_
  have F2 := F1.pt u2
  change Code.wp _ _ _ _ _
  refine wp_seq ?_
  refine rg_list ?_
  refine wl_p (ex_as (v := (.int .i64 0)) rfl) F2.l fun a3 u3 h10_3 => ?_
  have F3 := F2.pt u3
  refine wl_p (ex_as (v := (.int .i64 0)) rfl) F3.l fun a4 u4 h11_4 => ?_
  have F4 := F3.pt u4
  refine wl_p (ex_as (v := (.int .i64 0)) rfl) F4.l fun a5 u5 h12_5 => ?_
  have F5 := F4.pt u5
  change Code.wp _ _ _ _ _
  refine wp_seq ?_
  refine wp_block ?_
  refine wp_seq ?_
  refine rg_list ?_
  refine wl_p (ex_bin (vx := (.int .u64 32)) (vy := (.int .u64 32)) (v := (.bool true)) rfl rfl (by kernel_rfl)) F5.l fun a6 u6 h35_6 => ?_
  have F6 := F5.pt u6
  refine wl_p (ex_as h35_6) F6.l fun a7 u7 h34_7 => ?_
  have F7 := F6.pt u7
  change Code.wp _ _ _ _ _
  refine wp_cond_true h34_7 ?_
  refine wp_seq ?_
  refine rg_list ?_
  have h1_7 := u7.w (u6.w (u5.w (u4.w (u3.w (u2.w (u1.w h1_0))))))
  refine wl_p (ex_mv h1_7) F7.l fun a8 u8 h36_8 => ?_
  have F8 := F7.pt u8
  refine wl_p (ex_extn (arg1 h36_8) (fbits32 x _)) F8.l fun a9 u9 (h37_9 : a9.tmps.getD 37 undef = (.int .u32 x)) => ?_
  have F9 := F8.pt u9
  refine wl_p (ex_conv (vx := (.int .u32 x)) (v := (.int .u64 x)) h37_9 (cv_u32_u64 x (by omega) (by omega) _)) F9.l fun a10 u10 h38_10 => ?_
  have F10 := F9.pt u10
  refine wl_p (ex_as h38_10) F10.l fun a11 u11 h9_11 => ?_
  have F11 := F10.pt u11
  change Code.wp _ _ _ _ _
  refine wp_seq ?_
  refine rg_list ?_
  refine wl_p (ex_as (v := (.int .i64 8)) rfl) F11.l fun a12 u12 h10_12 => ?_
  have F12 := F11.pt u12
  change Code.wp _ _ _ _ _
  refine wp_seq ?_
  refine rg_list ?_
  refine wl_p (ex_as (v := (.int .i64 23)) rfl) F12.l fun a13 u13 h11_13 => ?_
  have F13 := F12.pt u13
  change Code.wp _ _ _ _ _
  refine rg_list ?_
  refine wl_p (ex_as (v := (.int .i64 (-127))) rfl) F13.l fun a14 u14 h12_14 => ?_
  have F14 := F13.pt u14
  change Code.wp _ _ _ _ _
  refine wp_seq ?_
  refine rg_list ?_
  have h9_14 := u14.w (u13.w (u12.w h9_11))
  refine wl_p (ex_mv h9_14) F14.l fun a15 u15 h44_15 => ?_
  have F15 := F14.pt u15
  have h10_15 := u15.w (u14.w (u13.w h10_12))
  refine wl_p (ex_mv h10_15) F15.l fun a16 u16 h45_16 => ?_
  have F16 := F15.pt u16
  have h11_16 := u16.w (u15.w (u14.w h11_13))
  refine wl_p (ex_mv h11_16) F16.l fun a17 u17 h46_17 => ?_
  have F17 := F16.pt u17
  refine wl_p (ex_bin (v := (.int .i64 31)) (u17.w h45_16) h46_17 (by kernel_rfl)) F17.l fun a18 u18 h47_18 => ?_
  have F18 := F17.pt u18
  have h44_18 := u18.w (u17.w (u16.w h44_15))
  refine wl_p (ex_bin (v := (.int .u64 0)) h44_18 h47_18 (bo_shr_r x 0 31 (by decide) h1 _)) F18.l fun a19 u19 h48_19 => ?_
  have F19 := F18.pt u19
  refine wl_p (ex_bin (vy := (.int .u64 0)) (v := (.bool false)) h48_19 rfl (by kernel_rfl)) F19.l fun a20 u20 h49_20 => ?_
  have F20 := F19.pt u20
  refine wl_p (ex_as h49_20) F20.l fun a21 u21 h13_21 => ?_
  have F21 := F20.pt u21
  change Code.wp _ _ _ _ _
  refine wp_seq ?_
  obtain ⟨w1, hw1⟩ : ∃ w, w = w0.drew := ⟨_, rfl⟩
  have G1 : w0.grownBy w1 none := hw1 ▸ grown_drew _
  have R_1 := R_0.gn G1
  have TP_1 := TP_0.gn G1 (Nat.lt_of_lt_of_le hgt Hb_0)
  have Bl_1 := below_gn Bl_0 Hb_0 G1
  have Hb_1 := Nat.le_trans Hb_0 G1.size
  refine rg_still hw1 hmix (by kernel_rfl) ?_
  have h9_21 := u21.w (u20.w (u19.w (u18.w (u17.w (u16.w (u15.w h9_14))))))
  refine st_p (ex_mv h9_21) F21.l fun a22 u22 h50_22 => ?_
  have F22 := F21.pt u22
  have h11_22 := u22.w (u21.w (u20.w (u19.w (u18.w (u17.w h11_16)))))
  refine st_p (ex_mv h11_22) F22.l fun a23 u23 h51_23 => ?_
  have F23 := F22.pt u23
  refine st_p (ex_bin (v := (.int .u64 eb)) (u23.w h50_22) h51_23 (bo_shr_r x eb 23 (by decide) h2 _)) F23.l fun a24 u24 h52_24 => ?_
  have F24 := F23.pt u24
  refine st_p (ex_conv (vx := (.int .u64 eb)) (v := (.int .i64 eb)) h52_24 (cv_u64_i eb (by omega) (by omega) _)) F24.l fun a25 u25 h53_25 => ?_
  have F25 := F24.pt u25
  have h10_25 := u25.w (u24.w (u23.w (u22.w (u21.w (u20.w (u19.w (u18.w (u17.w (u16.w h10_15)))))))))
  refine st_p (ex_mv h10_25) F25.l fun a26 u26 h54_26 => ?_
  have F26 := F25.pt u26
  refine st_p (ex_bin (vx := (.int .i64 1)) (v := (.int .i64 256)) rfl h54_26 (by kernel_rfl)) F26.l fun a27 u27 h55_27 => ?_
  have F27 := F26.pt u27
  refine st_p (ex_bin (vy := (.int .i64 1)) (v := (.int .i64 255)) h55_27 rfl (by kernel_rfl)) F27.l fun a28 u28 h56_28 => ?_
  have F28 := F27.pt u28
  have h53_28 := u28.w (u27.w (u26.w h53_25))
  refine st_p (ex_bin (v := (.int .i64 eb)) h53_28 h56_28 (bo_andi_r eb 255 eb h3 _)) F28.l fun a29 u29 h57_29 => ?_
  have F29 := F28.pt u29
  refine st_p (ex_as h57_29) F29.l fun a30 u30 h14_30 => ?_
  have F30 := F29.pt u30
  change Code.wp _ _ _ _ _
  refine wp_seq ?_
  refine rg_list ?_
  have h9_30 := u30.w (u29.w (u28.w (u27.w (u26.w (u25.w (u24.w (u23.w (u22.w h9_21))))))))
  refine wl_p (ex_mv h9_30) F30.l fun a31 u31 h58_31 => ?_
  have F31 := F30.pt u31
  have h11_31 := u31.w (u30.w (u29.w (u28.w (u27.w (u26.w (u25.w (u24.w (u23.w h11_22))))))))
  refine wl_p (ex_mv h11_31) F31.l fun a32 u32 h59_32 => ?_
  have F32 := F31.pt u32
  refine wl_p (ex_bin (vx := (.int .u64 1)) (v := (.int .u64 8388608)) rfl h59_32 (by kernel_rfl)) F32.l fun a33 u33 h60_33 => ?_
  have F33 := F32.pt u33
  refine wl_p (ex_bin (vy := (.int .u64 1)) (v := (.int .u64 8388607)) h60_33 rfl (by kernel_rfl)) F33.l fun a34 u34 h61_34 => ?_
  have F34 := F33.pt u34
  have h58_34 := u34.w (u33.w (u32.w h58_31))
  refine wl_p (ex_bin (v := (.int .u64 mt)) h58_34 h61_34 (bo_andu_r x 8388607 mt h4 _)) F34.l fun a35 u35 h62_35 => ?_
  have F35 := F34.pt u35
  refine wl_p (ex_as h62_35) F35.l fun a36 u36 h15_36 => ?_
  have F36 := F35.pt u36
  change Code.wp _ _ _ _ _
  refine wp_seq ?_
  refine wp_seq ?_
  refine rg_list ?_
  have h14_36 := u36.w (u35.w (u34.w (u33.w (u32.w (u31.w h14_30)))))
  refine wl_p (ex_mv h14_36) F36.l fun a37 u37 h63_37 => ?_
  have F37 := F36.pt u37
  have h10_37 := u37.w (u36.w (u35.w (u34.w (u33.w (u32.w (u31.w (u30.w (u29.w (u28.w (u27.w (u26.w h10_25)))))))))))
  refine wl_p (ex_mv h10_37) F37.l fun a38 u38 h64_38 => ?_
  have F38 := F37.pt u38
  refine wl_p (ex_bin (vx := (.int .i64 1)) (v := (.int .i64 256)) rfl h64_38 (by kernel_rfl)) F38.l fun a39 u39 h65_39 => ?_
  have F39 := F38.pt u39
  refine wl_p (ex_bin (vy := (.int .i64 1)) (v := (.int .i64 255)) h65_39 rfl (by kernel_rfl)) F39.l fun a40 u40 h66_40 => ?_
  have F40 := F39.pt u40
  have h63_40 := u40.w (u39.w (u38.w h63_37))
  refine wl_p (ex_bin (v := (.bool false)) h63_40 h66_40 (bo_eqz_r eb 255 false (by simp; omega) _)) F40.l fun a41 u41 h67_41 => ?_
  have F41 := F40.pt u41
  change Code.wp _ _ _ _ _
  refine wp_cond_false h67_41 ?_
  refine wp_skip ?_
  change Code.wp _ _ _ _ _
  refine wp_seq ?_
  refine wp_seq ?_
  refine rg_list ?_
  have h14_41 := u41.w (u40.w (u39.w (u38.w (u37.w h14_36))))
  refine wl_p (ex_mv h14_41) F41.l fun a42 u42 h77_42 => ?_
  have F42 := F41.pt u42
  refine wl_p (ex_bin (vy := (.int .i64 0)) (v := (.bool false)) h77_42 rfl (bo_eqz_r eb 0 false (by simp; omega) _)) F42.l fun a43 u43 h78_43 => ?_
  have F43 := F42.pt u43
  change Code.wp _ _ _ _ _
  refine wp_cond_false h78_43 ?_
  refine rg_list ?_
  have h15_43 := u43.w (u42.w (u41.w (u40.w (u39.w (u38.w (u37.w h15_36))))))
  refine wl_p (ex_mv h15_43) F43.l fun a44 u44 h81_44 => ?_
  have F44 := F43.pt u44
  have h11_44 := u44.w (u43.w (u42.w (u41.w (u40.w (u39.w (u38.w (u37.w (u36.w (u35.w (u34.w (u33.w (u32.w h11_31))))))))))))
  refine wl_p (ex_mv h11_44) F44.l fun a45 u45 h82_45 => ?_
  have F45 := F44.pt u45
  refine wl_p (ex_bin (vx := (.int .u64 1)) (v := (.int .u64 8388608)) rfl h82_45 (by kernel_rfl)) F45.l fun a46 u46 h83_46 => ?_
  have F46 := F45.pt u46
  refine wl_p (ex_bin (v := (.int .u64 mant)) (u46.w (u45.w h81_44)) h83_46 (bo_oru_r mt 8388608 mant h5 _)) F46.l fun a47 u47 h84_47 => ?_
  have F47 := F46.pt u47
  refine wl_p (ex_as h84_47) F47.l fun a48 u48 h15_48 => ?_
  have F48 := F47.pt u48
  change Code.wp _ _ _ _ _
  refine wp_seq ?_
  refine rg_list ?_
  have h14_48 := u48.w (u47.w (u46.w (u45.w (u44.w (u43.w (u42.w h14_41))))))
  refine wl_p (ex_mv h14_48) F48.l fun a49 u49 h85_49 => ?_
  have F49 := F48.pt u49
  have h12_49 := u49.w (u48.w (u47.w (u46.w (u45.w (u44.w (u43.w (u42.w (u41.w (u40.w (u39.w (u38.w (u37.w (u36.w (u35.w (u34.w (u33.w (u32.w (u31.w (u30.w (u29.w (u28.w (u27.w (u26.w (u25.w (u24.w (u23.w (u22.w (u21.w (u20.w (u19.w (u18.w (u17.w (u16.w (u15.w h12_14))))))))))))))))))))))))))))))))))
  refine wl_p (ex_mv h12_49) F49.l fun a50 u50 h86_50 => ?_
  have F50 := F49.pt u50
  refine wl_p (ex_bin (v := (.int .i64 (eb - 127))) (u50.w h85_49) h86_50 (bo_addz_r eb (-127) (eb - 127) (by omega) _ (by omega) (by omega))) F50.l fun a51 u51 h87_51 => ?_
  have F51 := F50.pt u51
  refine wl_p (ex_as h87_51) F51.l fun a52 u52 h14_52 => ?_
  have F52 := F51.pt u52
  change Code.wp _ _ _ _ _
  refine wp_seq ?_
  refine wp_seq ?_
  refine rg_list ?_
  have h2_52 := u52.w (u51.w (u50.w (u49.w (u48.w (u47.w (u46.w (u45.w (u44.w (u43.w (u42.w (u41.w (u40.w (u39.w (u38.w (u37.w (u36.w (u35.w (u34.w (u33.w (u32.w (u31.w (u30.w (u29.w (u28.w (u27.w (u26.w (u25.w (u24.w (u23.w (u22.w (u21.w (u20.w (u19.w (u18.w (u17.w (u16.w (u15.w (u14.w (u13.w (u12.w (u11.w (u10.w (u9.w (u8.w (u7.w (u6.w (u5.w (u4.w (u3.w (u2.w (u1.w h2_0)))))))))))))))))))))))))))))))))))))))))))))))))))
  refine wl_p (ex_mv h2_52) F52.l fun a53 u53 h88_53 => ?_
  have F53 := F52.pt u53
  refine wl_p (ex_bin (vy := (.int .u8 98)) (v := (.bool false)) h88_53 rfl (by kernel_rfl)) F53.l fun a54 u54 h89_54 => ?_
  have F54 := F53.pt u54
  change Code.wp _ _ _ _ _
  refine wp_cond_false h89_54 ?_
  refine wp_skip ?_
  change Code.wp _ _ _ _ _
  refine wp_seq ?_
  refine wp_seq ?_
  refine rg_list ?_
  refine wl_p (ex_mv (u54.w (u53.w h2_52))) F54.l fun a55 u55 h97_55 => ?_
  have F55 := F54.pt u55
  refine wl_p (ex_bin (vy := (.int .u8 120)) (v := (.bool false)) h97_55 rfl (by kernel_rfl)) F55.l fun a56 u56 h98_56 => ?_
  have F56 := F55.pt u56
  refine wl_p (ex_mv h98_56) F56.l fun a57 u57 h99_57 => ?_
  have F57 := F56.pt u57
  have h2_57 := u57.w (u56.w (u55.w (u54.w (u53.w h2_52))))
  refine wl_g (yl (e := 99) rfl h99_57) (ex_mv h2_57) F57.l fun a58 u58 h100_58 => ?_
  have F58 := F57.pt u58
  refine wl_g (yl (e := 99) rfl (u58.w h99_57)) (ex_bin (vy := (.int .u8 88)) (v := (.bool false)) h100_58 rfl (by kernel_rfl)) F58.l fun a59 u59 h101_59 => ?_
  have F59 := F58.pt u59
  refine wl_p (ex_pick (q := false) (u59.w (u58.w h99_57)) h101_59) F59.l fun a60 u60 h102_60 => ?_
  have F60 := F59.pt u60
  change Code.wp _ _ _ _ _
  refine wp_cond_false h102_60 ?_
  refine wp_skip ?_
  change Code.wp _ _ _ _ _
  refine wp_seq ?_
  refine wp_seq ?_
  refine rg_list ?_
  have h15_60 := u60.w (u59.w (u58.w (u57.w (u56.w (u55.w (u54.w (u53.w (u52.w (u51.w (u50.w (u49.w h15_48)))))))))))
  refine wl_p (ex_mv h15_60) F60.l fun a61 u61 h111_61 => ?_
  have F61 := F60.pt u61
  refine wl_p (ex_bin (vy := (.int .u64 0)) (v := (.bool false)) h111_61 rfl (bo_equ_r mant 0 false (by simp; omega) _)) F61.l fun a62 u62 h112_62 => ?_
  have F62 := F61.pt u62
  change Code.wp _ _ _ _ _
  refine wp_cond_false h112_62 ?_
  refine wp_skip ?_
  change Code.wp _ _ _ _ _
  refine wp_seq ?_
  refine wp_seq ?_
  refine rg_list ?_
  have h3_62 := u62.w (u61.w (u60.w (u59.w (u58.w (u57.w (u56.w (u55.w (u54.w (u53.w (u52.w (u51.w (u50.w (u49.w (u48.w (u47.w (u46.w (u45.w (u44.w (u43.w (u42.w (u41.w (u40.w (u39.w (u38.w (u37.w (u36.w (u35.w (u34.w (u33.w (u32.w (u31.w (u30.w (u29.w (u28.w (u27.w (u26.w (u25.w (u24.w (u23.w (u22.w (u21.w (u20.w (u19.w (u18.w (u17.w (u16.w (u15.w (u14.w (u13.w (u12.w (u11.w (u10.w (u9.w (u8.w (u7.w (u6.w (u5.w (u4.w (u3.w (u2.w (u1.w h3_0)))))))))))))))))))))))))))))))))))))))))))))))))))))))))))))
  refine wl_p (ex_mv h3_62) F62.l fun a63 u63 h120_63 => ?_
  have F63 := F62.pt u63
  refine wl_p (ex_bin (vy := (.int .i64 0)) (v := (.bool false)) h120_63 rfl (by kernel_rfl)) F63.l fun a64 u64 h121_64 => ?_
  have F64 := F63.pt u64
  change Code.wp _ _ _ _ _
  refine wp_cond_false h121_64 ?_
  refine wp_skip ?_
  change Code.wp _ _ _ _ _
  refine wp_seq ?_
  refine wp_seq ?_
  refine rg_list ?_
  refine wl_p (ex_ld (v := .bool true) (ad := ⟨4, 0, none⟩) (fun _ => by kernel_rfl) rfl TP_1.o) F64.l fun a65 u65 h173_65 => ?_
  have F65 := F64.pt u65
  change Code.wp _ _ _ _ _
  refine wp_cond_true h173_65 ?_
  refine wp_seq ?_
  refine rg_list ?_
  have h3_65 := u65.w (u64.w (u63.w h3_62))
  refine wl_p (ex_mv h3_65) F65.l fun a66 u66 h174_66 => ?_
  have F66 := F65.pt u66
  refine wl_p (ex_as h174_66) F66.l fun a67 u67 h24_67 => ?_
  have F67 := F66.pt u67
  change Code.wp _ _ _ _ _
  refine wp_seq ?_
  refine wp_seq ?_
  refine rg_list ?_
  have h2_67 := u67.w (u66.w (u65.w (u64.w (u63.w (u62.w (u61.w (u60.w (u59.w (u58.w h2_57)))))))))
  refine wl_p (ex_mv h2_67) F67.l fun a68 u68 h175_68 => ?_
  have F68 := F67.pt u68
  change Code.wp _ _ _ _ _
  refine wp_block ?_
  refine wp_seq ?_
  refine rg_list ?_
  refine wl_p (ex_bin (vy := (.int .u8 102)) (v := (.bool true)) h175_68 rfl (by kernel_rfl)) F68.l fun a69 u69 h177_69 => ?_
  have F69 := F68.pt u69
  refine wl_p (ex_as h177_69) F69.l fun a70 u70 h176_70 => ?_
  have F70 := F69.pt u70
  change Code.wp _ _ _ _ _
  refine wp_cond_true h176_70 ?_
  refine wp_seq ?_
  refine rg_list ?_
  have h14_70 := u70.w (u69.w (u68.w (u67.w (u66.w (u65.w (u64.w (u63.w (u62.w (u61.w (u60.w (u59.w (u58.w (u57.w (u56.w (u55.w (u54.w (u53.w h14_52)))))))))))))))))
  refine wl_p (ex_mv h14_70) F70.l fun a71 u71 h178_71 => ?_
  have F71 := F70.pt u71
  refine wl_p (ex_bin (vy := (.int .i64 0)) (v := (.bool true)) h178_71 rfl (bo_geq_r (eb - 127) 0 true (by rw [decide_eq_true (by omega)]) _)) F71.l fun a72 u72 h179_72 => ?_
  have F72 := F71.pt u72
  change Code.wp _ _ _ _ _
  refine wp_cond_true h179_72 ?_
  refine rg_list ?_
  refine wl_p (ex_mv (u72.w (u71.w h14_70))) F72.l fun a73 u73 h180_73 => ?_
  have F73 := F72.pt u73
  refine wl_p (ex_bin (vx := (.int .i64 1)) (v := (.int .i64 (1 + (eb - 127)))) rfl h180_73 (bo_addz_r 1 (eb - 127) (1 + (eb - 127)) rfl _ (by omega) (by omega))) F73.l fun a74 u74 h181_74 => ?_
  have F74 := F73.pt u74
  refine wl_cl (args := #[(.int .i64 (1 + (eb - 127)))]) (R := fun v w' => v = .int .i64 (((1 + (eb - 127))) * 78913 / 262144) ∧ w1 = w') (ex_cl (fun _ _ => by kernel_rfl) (arg1 h181_74)) ((l10_any ((1 + (eb - 127))) (by omega) (by omega) w1).mono fun _ _ h => ⟨_, h.1, rfl, h.2⟩) F74.l ?_
  rintro v w' ⟨rfl, rfl⟩
  intro a75 u75 h182_75
  have F75 := F74.pt u75
  refine wl_p (ex_bin (vx := (.int .i64 1)) (v := (.int .i64 (1 + (1 + (eb - 127)) * 78913 / 262144))) rfl h182_75 (bo_addz_r 1 ((1 + (eb - 127)) * 78913 / 262144) (1 + (1 + (eb - 127)) * 78913 / 262144) rfl _ (by omega) (by omega))) F75.l fun a76 u76 h183_76 => ?_
  have F76 := F75.pt u76
  have h3_76 := u76.w (u75.w (u74.w (u73.w (u72.w (u71.w (u70.w (u69.w (u68.w (u67.w (u66.w h3_65))))))))))
  refine wl_p (ex_mv h3_76) F76.l fun a77 u77 h184_77 => ?_
  have F77 := F76.pt u77
  refine wl_p (ex_bin (v := (.int .i64 n)) (u77.w h183_76) h184_77 (bo_addz_r (1 + (1 + (eb - 127)) * 78913 / 262144) 3 n hdg _ (by omega) (by omega))) F77.l fun a78 u78 h185_78 => ?_
  have F78 := F77.pt u78
  refine wl_p (ex_as h185_78) F78.l fun a79 u79 h24_79 => ?_
  have F79 := F78.pt u79
  change Code.wp _ _ _ _ _
  refine wp_seq ?_
  refine rg_list ?_
  refine wl_p (ex_mv h24_79) F79.l fun a80 u80 h203_80 => ?_
  have F80 := F79.pt u80
  refine wl_p (ex_bin (vy := (.int .i64 18)) (v := (.bool true)) h203_80 rfl (bo_leq_r n 18 true (by rw [decide_eq_true (by omega)]) _)) F80.l fun a81 u81 h204_81 => ?_
  have F81 := F80.pt u81
  change Code.wp _ _ _ _ _
  refine wp_cond_true h204_81 ?_
  refine wp_seq ?_
  refine rg_list ?_
  obtain ⟨g16, hg16⟩ : ∃ g, w1.heap.size = g := ⟨_, rfl⟩
  have hgB : B ≤ g16 := by have := Hb_1; omega
  obtain ⟨w2, hr2, B16_2, G2, hs2⟩ := al_run (op := Instr.alloc 133 true (.tuple #[])) (T := 133) (cs := #[(.int .u8 0), (.int .u8 0), (.int .u8 0), (.int .u8 0), (.int .u8 0), (.int .u8 0), (.int .u8 0), (.int .u8 0), (.int .u8 0), (.int .u8 0), (.int .u8 0), (.int .u8 0), (.int .u8 0), (.int .u8 0), (.int .u8 0), (.int .u8 0), (.int .u8 0), (.int .u8 0), (.int .u8 0), (.int .u8 0), (.int .u8 0), (.int .u8 0), (.int .u8 0), (.int .u8 0)]) hg16 (fun _ => by kernel_rfl)
  have R_2 := R_1.gn G2
  have TP_2 := TP_1.gn G2 (Nat.lt_of_lt_of_le hgt Hb_1)
  have Bl_2 := below_gn Bl_1 Hb_1 G2
  have Hb_2 := Nat.le_trans Hb_1 G2.size
  refine wl_p (ex_al hr2) F81.l fun a82 u82 (h25_82 : a82.tmps.getD 25 undef = (.pointer (some ⟨g16, 0, none⟩))) => ?_
  have F82 := F81.pt u82
  change Code.wp _ _ _ _ _
  refine wp_seq ?_
  refine rg_list ?_
  refine wl_p (ex_as (v := (.int .i64 0)) rfl) F82.l fun a83 u83 h26_83 => ?_
  have F83 := F82.pt u83
  refine wl_p (ex_as (v := (.int .i64 0)) rfl) F83.l fun a84 u84 h27_84 => ?_
  have F84 := F83.pt u84
  change Code.wp _ _ _ _ _
  refine wp_seq ?_
  refine wp_seq ?_
  refine rg_list ?_
  have h24_84 := u84.w (u83.w (u82.w (u81.w (u80.w h24_79))))
  refine wl_p (ex_mv h24_84) F84.l fun a85 u85 h205_85 => ?_
  have F85 := F84.pt u85
  refine wl_p (ex_bin (vy := (.int .i64 0)) (v := (.bool true)) h205_85 rfl (bo_gtr_r n 0 true (by rw [decide_eq_true (by omega)]) _)) F85.l fun a86 u86 h206_86 => ?_
  have F86 := F85.pt u86
  change Code.wp _ _ _ _ _
  refine wp_cond_true h206_86 ?_
  refine wp_seq ?_
  refine rg_list ?_
  have h15_86 := u86.w (u85.w (u84.w (u83.w (u82.w (u81.w (u80.w (u79.w (u78.w (u77.w (u76.w (u75.w (u74.w (u73.w (u72.w (u71.w (u70.w (u69.w (u68.w (u67.w (u66.w (u65.w (u64.w (u63.w (u62.w (u61.w h15_60)))))))))))))))))))))))))
  refine wl_p (ex_mv h15_86) F86.l fun a87 u87 h207_87 => ?_
  have F87 := F86.pt u87
  refine wl_cl (args := #[(.int .u64 mant)]) (R := fun v w' => v = .int .i64 24 ∧ w2 = w') (ex_cl (fun _ _ => by kernel_rfl) (arg1 h207_87)) ((len64_any mant w2 (by omega) (by omega)).mono fun _ _ h => ⟨_, h.1.trans (by rw [hbl]; rfl), rfl, h.2.symm⟩) F87.l ?_
  rintro v w' ⟨rfl, rfl⟩
  intro a88 u88 h208_88
  have F88 := F87.pt u88
  refine wl_p (ex_bin (vx := (.int .i64 64)) (v := (.int .i64 40)) rfl h208_88 (by kernel_rfl)) F88.l fun a89 u89 h209_89 => ?_
  have F89 := F88.pt u89
  refine wl_p (ex_as h209_89) F89.l fun a90 u90 h28_90 => ?_
  have F90 := F89.pt u90
  change Code.wp _ _ _ _ _
  refine wp_seq ?_
  refine rg_list ?_
  have h15_90 := u90.w (u89.w (u88.w (u87.w h15_86)))
  refine wl_p (ex_mv h15_90) F90.l fun a91 u91 h210_91 => ?_
  have F91 := F90.pt u91
  refine wl_p (ex_mv (u91.w h28_90)) F91.l fun a92 u92 h211_92 => ?_
  have F92 := F91.pt u92
  refine wl_p (ex_bin (v := (.int .u64 m)) (u92.w h210_91) h211_92 (bo_shl_r mant m 40 (by decide) h6 _)) F92.l fun a93 u93 h212_93 => ?_
  have F93 := F92.pt u93
  refine wl_p (ex_as h212_93) F93.l fun a94 u94 h29_94 => ?_
  have F94 := F93.pt u94
  change Code.wp _ _ _ _ _
  refine wp_seq ?_
  refine rg_list ?_
  have h14_94 := u94.w (u93.w (u92.w (u91.w (u90.w (u89.w (u88.w (u87.w (u86.w (u85.w (u84.w (u83.w (u82.w (u81.w (u80.w (u79.w (u78.w (u77.w (u76.w (u75.w (u74.w (u73.w (u72.w (u71.w h14_70)))))))))))))))))))))))
  refine wl_p (ex_mv h14_94) F94.l fun a95 u95 h213_95 => ?_
  have F95 := F94.pt u95
  have h28_95 := u95.w (u94.w (u93.w (u92.w (u91.w h28_90))))
  refine wl_p (ex_mv h28_95) F95.l fun a96 u96 h214_96 => ?_
  have F96 := F95.pt u96
  refine wl_p (ex_bin (v := (.int .i64 (eb - 127 - 40))) (u96.w h213_95) h214_96 (bo_subz_r (eb - 127) 40 (eb - 127 - 40) rfl _ (by omega) (by omega))) F96.l fun a97 u97 h215_97 => ?_
  have F97 := F96.pt u97
  refine wl_p (ex_as h215_97) F97.l fun a98 u98 h30_98 => ?_
  have F98 := F97.pt u98
  change Code.wp _ _ _ _ _
  refine wp_seq ?_
  refine rg_list ?_
  have h29_98 := u98.w (u97.w (u96.w (u95.w h29_94)))
  refine wl_p (ex_mv h29_98) F98.l fun a99 u99 h217_99 => ?_
  have F99 := F98.pt u99
  refine wl_p (ex_mv (u99.w h30_98)) F99.l fun a100 u100 h218_100 => ?_
  have F100 := F99.pt u100
  have h11_100 := u100.w (u99.w (u98.w (u97.w (u96.w (u95.w (u94.w (u93.w (u92.w (u91.w (u90.w (u89.w (u88.w (u87.w (u86.w (u85.w (u84.w (u83.w (u82.w (u81.w (u80.w (u79.w (u78.w (u77.w (u76.w (u75.w (u74.w (u73.w (u72.w (u71.w (u70.w (u69.w (u68.w (u67.w (u66.w (u65.w (u64.w (u63.w (u62.w (u61.w (u60.w (u59.w (u58.w (u57.w (u56.w (u55.w (u54.w (u53.w (u52.w (u51.w (u50.w (u49.w (u48.w (u47.w (u46.w (u45.w h11_44)))))))))))))))))))))))))))))))))))))))))))))))))))))))
  refine wl_p (ex_mv h11_100) F100.l fun a101 u101 h219_101 => ?_
  have F101 := F100.pt u101
  refine wl_p (ex_bin (v := (.int .i64 e2)) (u101.w h218_100) h219_101 (bo_subz_r (eb - 127 - 40) 23 e2 he _ (by omega) (by omega))) F101.l fun a102 u102 h220_102 => ?_
  have F102 := F101.pt u102
  have h24_102 := u102.w (u101.w (u100.w (u99.w (u98.w (u97.w (u96.w (u95.w (u94.w (u93.w (u92.w (u91.w (u90.w (u89.w (u88.w (u87.w (u86.w (u85.w h24_84)))))))))))))))))
  refine wl_p (ex_mv h24_102) F102.l fun a103 u103 h221_103 => ?_
  have F103 := F102.pt u103
  have h3_103 := u103.w (u102.w (u101.w (u100.w (u99.w (u98.w (u97.w (u96.w (u95.w (u94.w (u93.w (u92.w (u91.w (u90.w (u89.w (u88.w (u87.w (u86.w (u85.w (u84.w (u83.w (u82.w (u81.w (u80.w (u79.w (u78.w (u77.w h3_76))))))))))))))))))))))))))
  refine wl_p (ex_mv h3_103) F103.l fun a104 u104 h222_104 => ?_
  have F104 := F103.pt u104
  have h2_104 := u104.w (u103.w (u102.w (u101.w (u100.w (u99.w (u98.w (u97.w (u96.w (u95.w (u94.w (u93.w (u92.w (u91.w (u90.w (u89.w (u88.w (u87.w (u86.w (u85.w (u84.w (u83.w (u82.w (u81.w (u80.w (u79.w (u78.w (u77.w (u76.w (u75.w (u74.w (u73.w (u72.w (u71.w (u70.w (u69.w (u68.w h2_67))))))))))))))))))))))))))))))))))))
  refine wl_p (ex_mv h2_104) F104.l fun a105 u105 h223_105 => ?_
  have F105 := F104.pt u105
  have h217_105 := u105.w (u104.w (u103.w (u102.w (u101.w (u100.w h217_99)))))
  have h220_105 := u105.w (u104.w (u103.w h220_102))
  refine wl_cl (args := #[(.int .u64 m), (.int .i64 e2), (.int .i64 n), (.int .i64 3), (.int .u8 102)]) (R := fun v w' => v = .tuple #[.int .u64 d, .int .i64 (-3)] ∧ w2.grownBy w' none) (ex_cl (fun _ _ => by kernel_rfl) (arg5 h217_105 h220_105 (u105.w (u104.w h221_103)) (u105.w h222_104) h223_105)) ((fixed_any hS w2 TP_2 (Nat.lt_of_lt_of_le hgt Hb_2)).mono fun _ _ h => ⟨_, h.1, rfl, h.2⟩) F105.l ?_
  rintro v w3 ⟨rfl, G3⟩
  have B16_3 := B16_2.gn G3
  have R_3 := R_2.gn G3
  have TP_3 := TP_2.gn G3 (Nat.lt_of_lt_of_le hgt Hb_2)
  have Bl_3 := below_gn Bl_2 Hb_2 G3
  have Hb_3 := Nat.le_trans Hb_2 G3.size
  intro a106 u106 h224_106
  have F106 := F105.pt u106
  refine wl_p (ex_mv h224_106) F106.l fun a107 u107 h216_107 => ?_
  have F107 := F106.pt u107
  refine wl_p (ex_ext (vs := #[(.int .u64 d), (.int .i64 (-3))]) (v := (.int .u64 d)) h216_107 rfl) F107.l fun a108 u108 h225_108 => ?_
  have F108 := F107.pt u108
  refine wl_p (ex_ext (vs := #[(.int .u64 d), (.int .i64 (-3))]) (v := (.int .i64 (-3))) (u108.w h216_107) rfl) F108.l fun a109 u109 h226_109 => ?_
  have F109 := F108.pt u109
  refine wl_p (ex_as (u109.w h225_108)) F109.l fun a110 u110 h31_110 => ?_
  have F110 := F109.pt u110
  refine wl_p (ex_as (u110.w h226_109)) F110.l fun a111 u111 h32_111 => ?_
  have F111 := F110.pt u111
  change Code.wp _ _ _ _ _
  refine wp_seq ?_
  refine rg_list ?_
  refine wl_p (ex_mv (u111.w h31_110)) F111.l fun a112 u112 h227_112 => ?_
  have F112 := F111.pt u112
  refine wl_p (ex_bin (vy := (.int .u64 0)) (v := (.bool true)) h227_112 rfl (bo_neu_r d 0 true (by simp; omega) _)) F112.l fun a113 u113 h228_113 => ?_
  have F113 := F112.pt u113
  change Code.wp _ _ _ _ _
  refine wp_cond_true h228_113 ?_
  obtain ⟨w4, hw4⟩ : ∃ w, w = w3.drew := ⟨_, rfl⟩
  have G4 : w3.grownBy w4 none := hw4 ▸ grown_drew _
  have B16_4 := B16_3.gn G4
  have R_4 := R_3.gn G4
  have TP_4 := TP_3.gn G4 (Nat.lt_of_lt_of_le hgt Hb_3)
  have Bl_4 := below_gn Bl_3 Hb_3 G4
  have Hb_4 := Nat.le_trans Hb_3 G4.size
  refine rg_tree (S := fun _ => True) [] 11 hw4 ⟨rfl, by decide⟩ hmix (by kernel_rfl) (by kernel_rfl) (trivial) ?_
  have h25_113 := u113.w (u112.w (u111.w (u110.w (u109.w (u108.w (u107.w (u106.w (u105.w (u104.w (u103.w (u102.w (u101.w (u100.w (u99.w (u98.w (u97.w (u96.w (u95.w (u94.w (u93.w (u92.w (u91.w (u90.w (u89.w (u88.w (u87.w (u86.w (u85.w (u84.w (u83.w h25_82))))))))))))))))))))))))))))))
  refine tree_take (j := 0) rfl (by kernel_rfl) (by kernel_rfl) (by kernel_rfl) (fun w hw => ex_sl (v := .slice (some ⟨g16, 0, none⟩) 24 24) h25_113 rfl rfl rfl (sl133_run g16 _)) (trivial) F113.l fun a114 u114 h230_114 => ?_
  have F114 := F113.pt u114
  have h31_114 := u114.w (u113.w (u112.w (u111.w h31_110)))
  refine tree_take (j := 1) rfl (by kernel_rfl) (by kernel_rfl) (by kernel_rfl) (fun w hw => ex_mv h31_114) (trivial) F114.l fun a115 u115 h231_115 => ?_
  have F115 := F114.pt u115
  have h32_115 := u115.w (u114.w (u113.w (u112.w h32_111)))
  refine tree_take (j := 2) rfl (by kernel_rfl) (by kernel_rfl) (by kernel_rfl) (fun w hw => ex_mv h32_115) (trivial) F115.l fun a116 u116 h232_116 => ?_
  have F116 := F115.pt u116
  refine tree_take (j := 3) rfl (by kernel_rfl) (by kernel_rfl) (by kernel_rfl) (fun w hw => ex_mv (u116.w (u115.w h31_114))) (trivial) F116.l fun a117 u117 h233_117 => ?_
  have F117 := F116.pt u117
  refine tree1 (j := 4) (by kernel_rfl) ?_
  refine tk_cl (args := #[(.int .u64 d)]) (R := fun v w' => v = .int .i64 (Lib.nDigits d) ∧ w4 = w') rfl (ex_cl (fun _ _ => by kernel_rfl) (arg1 h233_117)) ((numD_any d w4 hd1 (by omega) TP_4).mono fun _ _ h => ⟨_, h.1, rfl, h.2.symm⟩) F117.l ?_
  rintro v w' ⟨rfl, rfl⟩
  refine ⟨trivial, ?_⟩
  intro a118 u118 h234_118
  have F118 := F117.pt u118
  refine tree1 (j := 5) (by kernel_rfl) ?_
  have h230_118 := u118.w (u117.w (u116.w (u115.w h230_114)))
  have h231_118 := u118.w (u117.w (u116.w h231_115))
  refine tk_cl (args := #[(.slice (some ⟨g16, 0, none⟩) 24 24), (.int .u64 d), (.int .i64 (-3)), (.int .i64 (Lib.nDigits d))]) (R := fun v w' => v = .tuple #[.int .i64 dp, .int .i64 tr.length] ∧ (∃ cs, Blk w' g16 133 cs ∧ ∀ j (h : j < tr.length), cs[j]? = some (.int .u8 (tr[j].toNat))) ∧ w4.grownBy w' (some g16)) rfl (ex_cl (fun _ _ => by kernel_rfl) (arg4 h230_118 h231_118 (u118.w (u117.w h232_116)) h234_118)) ((setD_any g16 133 24 d z (-3) tr w4 (Blk.to B16_4 (by kernel_rfl)) hd1 hd2 (by decide) (by decide) hpp hdig htr0 hlast).mono fun _ _ h => ⟨_, h.1.trans (by rw [hdp]), rfl, h.2⟩) F118.l ?_
  rintro v w5 ⟨rfl, ⟨cs, B16_5, hcs⟩, G5⟩
  have R_5 := R_4.gk B16_4 (by decide) G5
  have TP_5 := TP_4.gk G5 (Nat.lt_of_lt_of_le hgt hgB) (Nat.lt_of_lt_of_le hgt Hb_4)
  have Bl_5 := below_gs Bl_4 Hb_4 G5 hgB
  have Hb_5 := Nat.le_trans Hb_4 G5.size
  refine ⟨trivial, ?_⟩
  intro a119 u119 h235_119
  have F119 := F118.pt u119
  refine tree_take (j := 6) rfl (by kernel_rfl) (by kernel_rfl) (by kernel_rfl) (fun w hw => ex_mv h235_119) (trivial) F119.l fun a120 u120 h229_120 => ?_
  have F120 := F119.pt u120
  refine tree_take (j := 7) rfl (by kernel_rfl) (by kernel_rfl) (by kernel_rfl) (fun w hw => ex_ext (vs := #[(.int .i64 dp), (.int .i64 tr.length)]) (v := (.int .i64 dp)) h229_120 rfl) (trivial) F120.l fun a121 u121 h236_121 => ?_
  have F121 := F120.pt u121
  refine tree_take (j := 8) rfl (by kernel_rfl) (by kernel_rfl) (by kernel_rfl) (fun w hw => ex_ext (vs := #[(.int .i64 dp), (.int .i64 tr.length)]) (v := (.int .i64 tr.length)) (u121.w h229_120) rfl) (trivial) F121.l fun a122 u122 h237_122 => ?_
  have F122 := F121.pt u122
  refine tree_take (j := 9) rfl (by kernel_rfl) (by kernel_rfl) (by kernel_rfl) (fun w hw => ex_as (u122.w h236_121)) (trivial) F122.l fun a123 u123 h26_123 => ?_
  have F123 := F122.pt u123
  refine tree_take (j := 10) rfl (by kernel_rfl) (by kernel_rfl) (by kernel_rfl) (fun w hw => ex_as (u123.w h237_122)) (trivial) F123.l fun a124 u124 h27_124 => ?_
  have F124 := F123.pt u124
  refine tree0 (by kernel_rfl) ?_
  change Code.wp _ _ _ _ _
  refine wp_seq ?_
  refine rg_list ?_
  have h0_124 := u124.w (u123.w (u122.w (u121.w (u120.w (u119.w (u118.w (u117.w (u116.w (u115.w (u114.w (u113.w (u112.w (u111.w (u110.w (u109.w (u108.w (u107.w (u106.w (u105.w (u104.w (u103.w (u102.w (u101.w (u100.w (u99.w (u98.w (u97.w (u96.w (u95.w (u94.w (u93.w (u92.w (u91.w (u90.w (u89.w (u88.w (u87.w (u86.w (u85.w (u84.w (u83.w (u82.w (u81.w (u80.w (u79.w (u78.w (u77.w (u76.w (u75.w (u74.w (u73.w (u72.w (u71.w (u70.w (u69.w (u68.w (u67.w (u66.w (u65.w (u64.w (u63.w (u62.w (u61.w (u60.w (u59.w (u58.w (u57.w (u56.w (u55.w (u54.w (u53.w (u52.w (u51.w (u50.w (u49.w (u48.w (u47.w (u46.w (u45.w (u44.w (u43.w (u42.w (u41.w (u40.w (u39.w (u38.w (u37.w (u36.w (u35.w (u34.w (u33.w (u32.w (u31.w (u30.w (u29.w (u28.w (u27.w (u26.w (u25.w (u24.w (u23.w (u22.w (u21.w (u20.w (u19.w (u18.w (u17.w (u16.w (u15.w (u14.w (u13.w (u12.w (u11.w (u10.w (u9.w (u8.w (u7.w (u6.w (u5.w (u4.w (u3.w (u2.w (u1.w h0_0)))))))))))))))))))))))))))))))))))))))))))))))))))))))))))))))))))))))))))))))))))))))))))))))))))))))))))))))))))))))))))
  refine wl_p (ex_mv h0_124) F124.l fun a125 u125 h238_125 => ?_
  have F125 := F124.pt u125
  have h13_125 := u125.w (u124.w (u123.w (u122.w (u121.w (u120.w (u119.w (u118.w (u117.w (u116.w (u115.w (u114.w (u113.w (u112.w (u111.w (u110.w (u109.w (u108.w (u107.w (u106.w (u105.w (u104.w (u103.w (u102.w (u101.w (u100.w (u99.w (u98.w (u97.w (u96.w (u95.w (u94.w (u93.w (u92.w (u91.w (u90.w (u89.w (u88.w (u87.w (u86.w (u85.w (u84.w (u83.w (u82.w (u81.w (u80.w (u79.w (u78.w (u77.w (u76.w (u75.w (u74.w (u73.w (u72.w (u71.w (u70.w (u69.w (u68.w (u67.w (u66.w (u65.w (u64.w (u63.w (u62.w (u61.w (u60.w (u59.w (u58.w (u57.w (u56.w (u55.w (u54.w (u53.w (u52.w (u51.w (u50.w (u49.w (u48.w (u47.w (u46.w (u45.w (u44.w (u43.w (u42.w (u41.w (u40.w (u39.w (u38.w (u37.w (u36.w (u35.w (u34.w (u33.w (u32.w (u31.w (u30.w (u29.w (u28.w (u27.w (u26.w (u25.w (u24.w (u23.w (u22.w h13_21)))))))))))))))))))))))))))))))))))))))))))))))))))))))))))))))))))))))))))))))))))))))))))))))))))))))
  refine wl_p (ex_mv h13_125) F125.l fun a126 u126 h239_126 => ?_
  have F126 := F125.pt u126
  have h25_126 := u126.w (u125.w (u124.w (u123.w (u122.w (u121.w (u120.w (u119.w (u118.w (u117.w (u116.w (u115.w (u114.w h25_113))))))))))))
  refine wl_p (ex_sl (v := .slice (some ⟨g16, 0, none⟩) 24 24) h25_126 rfl rfl rfl (sl133_run g16 _)) F126.l fun a127 u127 h240_127 => ?_
  have F127 := F126.pt u127
  have h26_127 := u127.w (u126.w (u125.w (u124.w h26_123)))
  refine wl_p (ex_mv h26_127) F127.l fun a128 u128 h241_128 => ?_
  have F128 := F127.pt u128
  have h27_128 := u128.w (u127.w (u126.w (u125.w h27_124)))
  refine wl_p (ex_mv h27_128) F128.l fun a129 u129 h242_129 => ?_
  have F129 := F128.pt u129
  have h3_129 := u129.w (u128.w (u127.w (u126.w (u125.w (u124.w (u123.w (u122.w (u121.w (u120.w (u119.w (u118.w (u117.w (u116.w (u115.w (u114.w (u113.w (u112.w (u111.w (u110.w (u109.w (u108.w (u107.w (u106.w (u105.w (u104.w h3_103)))))))))))))))))))))))))
  refine wl_p (ex_mv h3_129) F129.l fun a130 u130 h243_130 => ?_
  have F130 := F129.pt u130
  have h2_130 := u130.w (u129.w (u128.w (u127.w (u126.w (u125.w (u124.w (u123.w (u122.w (u121.w (u120.w (u119.w (u118.w (u117.w (u116.w (u115.w (u114.w (u113.w (u112.w (u111.w (u110.w (u109.w (u108.w (u107.w (u106.w (u105.w h2_104)))))))))))))))))))))))))
  refine wl_p (ex_mv h2_130) F130.l fun a131 u131 h244_131 => ?_
  have F131 := F130.pt u131
  have h238_131 := u131.w (u130.w (u129.w (u128.w (u127.w (u126.w h238_125)))))
  have h239_131 := u131.w (u130.w (u129.w (u128.w (u127.w h239_126))))
  have h240_131 := u131.w (u130.w (u129.w (u128.w h240_127)))
  have h241_131 := u131.w (u130.w (u129.w h241_128))
  refine wl_cl (args := #[v0, (.bool false), (.slice (some ⟨g16, 0, none⟩) 24 24), (.int .i64 dp), (.int .i64 tr.length), (.int .i64 3), (.int .u8 102), (.bool false)]) (R := fun v w' => BRow w' B v (l ++ efgT tr dp (3)) ∧ Below B w5 w') (ex_cl (fun _ _ => by kernel_rfl) (arg8 h238_131 h239_131 h240_131 h241_131 (u131.w (u130.w h242_129)) (u131.w h243_130) h244_131 rfl)) ((fmtEFG_any (ds := tr) (dp := dp) (prec := 3) R_5 (Or.inr ⟨g16, 133, 24, cs, by decide, rfl, by omega, B16_5, hcs⟩) Hb_5 (by omega) (by omega) (by omega) (by omega) hl).mono fun _ _ ⟨v, h1, h2, h3, _⟩ => ⟨v, h1, h2, h3⟩) F131.l ?_
  rintro vf w6 ⟨Rf, Blf⟩
  intro a132 u132 h245_132
  have F132 := F131.pt u132
  refine wl_p (ex_as h245_132) F132.l fun a133 u133 h8_133 => ?_
  have F133 := F132.pt u133
  change Code.wp _ _ _ _ _
  refine wp_ret ?_
  try simp only [Exit.then, Exit.inBlock]
  exact bodyPost_ret (v := vf) ((results_tmp rfl _ _ _).trans (by rw [h8_133])) F133.defers ⟨_, rfl, Rf, Bl_5.trans Blf⟩
theorem ftoa32_neg {x d i hi lo z dp n tn B : Nat} {eb mt mant m e2 p s u : Int} {big : Bool} {tr l : List UInt8} {v0 : Value} {w0 : World} (h1 : (x : Int) / 2 ^ 31 = 0) (h2 : (x : Int) / 2 ^ 23 = eb) (h3 : bits .and .i64 eb 255 = eb) (h4 : bits .and .u64 x 8388607 = mt) (hx : x < 4294967296)
    (heb : 0 < eb ∧ eb < 255) (hex : eb - 127 < 0) (hdg : 4 - (-(eb - 127)) * 78913 / 262144 = (n : Int)) (hn : n < 10) (h5 : bits .or .u64 mt 8388608 = mant) (hmant : 0 < mant ∧ mant < 18446744073709551616) (hbl : Lib.bitLen mant.toNat = 24) (h6 : wr (mant * 2 ^ 40) = m) (he : eb - 127 - 40 - 23 = e2)
    (hS : FxF m e2 p s u d n i hi lo tn big) (hd1 : 1 ≤ d) (hd2 : d < 1000000000000000000) (hpp : -100 ≤ (-3 : Int) ∧ (-3 : Int) ≤ 100) (hdig : Lib.decDigits d = tr ++ List.replicate z 48) (htr0 : 0 < tr.length) (htr30 : tr.length ≤ 20) (hlast : ∀ h, tr[tr.length - 1]'h ≠ 48) (hdp : (Lib.nDigits d : Int) + -3 = dp) (hdp30 : dp ≤ 20) (h0n : 0 < n)
    (hR : BRow w0 B v0 l) (hB : B ≤ w0.heap.size) (hl : l.length ≤ 20) (ht : TabP w0) (hgt : 7 < B) :
    Calls Tryz.prog 68 #[v0, .float .f32 x, .int .u8 102, .int .i64 3] w0 fun e w' => ∃ v, e = .returned v ∧ BRow w' B v (l ++ efgT tr dp 3) ∧ Below B w0 w' := by
  refine calls_of_wp Tryz.func68 rfl ?_
  generalize hA : Act.mk _ _ = a0
  have F0 : Fz 298 a0 := by subst hA; exact ⟨by simp [Tryz.ntmps68], rfl⟩
  have h0_0 : a0.tmps.getD 0 undef = v0 := by subst hA; exact fr_arg rfl
  have h1_0 : a0.tmps.getD 1 undef = (.float .f32 x) := by subst hA; exact fr_arg rfl
  have h2_0 : a0.tmps.getD 2 undef = (.int .u8 102) := by subst hA; exact fr_arg rfl
  have h3_0 : a0.tmps.getD 3 undef = (.int .i64 3) := by subst hA; exact fr_arg rfl
  clear hA
  have R_0 := hR
  have TP_0 := ht
  have Bl_0 := Below.refl B w0
  have Hb_0 := hB
  refine wp_seq ?_
  refine rg_list ?_
  refine wl_p (ex_as (v := (.slice none 0 0)) rfl) F0.l fun a1 u1 h8_1 => ?_
  have F1 := F0.pt u1
  change Code.wp _ _ _ _ _
  refine wp_seq ?_
  refine rg_list ?_
  refine wl_p (ex_as (v := (.int .u64 0)) rfl) F1.l fun a2 u2 h9_2 => ?_
  have F2 := F1.pt u2
  change Code.wp _ _ _ _ _
  refine wp_seq ?_
  refine rg_list ?_
  refine wl_p (ex_as (v := (.int .i64 0)) rfl) F2.l fun a3 u3 h10_3 => ?_
  have F3 := F2.pt u3
  refine wl_p (ex_as (v := (.int .i64 0)) rfl) F3.l fun a4 u4 h11_4 => ?_
  have F4 := F3.pt u4
  refine wl_p (ex_as (v := (.int .i64 0)) rfl) F4.l fun a5 u5 h12_5 => ?_
  have F5 := F4.pt u5
  change Code.wp _ _ _ _ _
  refine wp_seq ?_
  refine wp_block ?_
  refine wp_seq ?_
  refine rg_list ?_
  refine wl_p (ex_bin (vx := (.int .u64 32)) (vy := (.int .u64 32)) (v := (.bool true)) rfl rfl (by kernel_rfl)) F5.l fun a6 u6 h35_6 => ?_
  have F6 := F5.pt u6
  refine wl_p (ex_as h35_6) F6.l fun a7 u7 h34_7 => ?_
  have F7 := F6.pt u7
  change Code.wp _ _ _ _ _
  refine wp_cond_true h34_7 ?_
  refine wp_seq ?_
  refine rg_list ?_
  have h1_7 := u7.w (u6.w (u5.w (u4.w (u3.w (u2.w (u1.w h1_0))))))
  refine wl_p (ex_mv h1_7) F7.l fun a8 u8 h36_8 => ?_
  have F8 := F7.pt u8
  refine wl_p (ex_extn (arg1 h36_8) (fbits32 x _)) F8.l fun a9 u9 (h37_9 : a9.tmps.getD 37 undef = (.int .u32 x)) => ?_
  have F9 := F8.pt u9
  refine wl_p (ex_conv (vx := (.int .u32 x)) (v := (.int .u64 x)) h37_9 (cv_u32_u64 x (by omega) (by omega) _)) F9.l fun a10 u10 h38_10 => ?_
  have F10 := F9.pt u10
  refine wl_p (ex_as h38_10) F10.l fun a11 u11 h9_11 => ?_
  have F11 := F10.pt u11
  change Code.wp _ _ _ _ _
  refine wp_seq ?_
  refine rg_list ?_
  refine wl_p (ex_as (v := (.int .i64 8)) rfl) F11.l fun a12 u12 h10_12 => ?_
  have F12 := F11.pt u12
  change Code.wp _ _ _ _ _
  refine wp_seq ?_
  refine rg_list ?_
  refine wl_p (ex_as (v := (.int .i64 23)) rfl) F12.l fun a13 u13 h11_13 => ?_
  have F13 := F12.pt u13
  change Code.wp _ _ _ _ _
  refine rg_list ?_
  refine wl_p (ex_as (v := (.int .i64 (-127))) rfl) F13.l fun a14 u14 h12_14 => ?_
  have F14 := F13.pt u14
  change Code.wp _ _ _ _ _
  refine wp_seq ?_
  refine rg_list ?_
  have h9_14 := u14.w (u13.w (u12.w h9_11))
  refine wl_p (ex_mv h9_14) F14.l fun a15 u15 h44_15 => ?_
  have F15 := F14.pt u15
  have h10_15 := u15.w (u14.w (u13.w h10_12))
  refine wl_p (ex_mv h10_15) F15.l fun a16 u16 h45_16 => ?_
  have F16 := F15.pt u16
  have h11_16 := u16.w (u15.w (u14.w h11_13))
  refine wl_p (ex_mv h11_16) F16.l fun a17 u17 h46_17 => ?_
  have F17 := F16.pt u17
  refine wl_p (ex_bin (v := (.int .i64 31)) (u17.w h45_16) h46_17 (by kernel_rfl)) F17.l fun a18 u18 h47_18 => ?_
  have F18 := F17.pt u18
  have h44_18 := u18.w (u17.w (u16.w h44_15))
  refine wl_p (ex_bin (v := (.int .u64 0)) h44_18 h47_18 (bo_shr_r x 0 31 (by decide) h1 _)) F18.l fun a19 u19 h48_19 => ?_
  have F19 := F18.pt u19
  refine wl_p (ex_bin (vy := (.int .u64 0)) (v := (.bool false)) h48_19 rfl (by kernel_rfl)) F19.l fun a20 u20 h49_20 => ?_
  have F20 := F19.pt u20
  refine wl_p (ex_as h49_20) F20.l fun a21 u21 h13_21 => ?_
  have F21 := F20.pt u21
  change Code.wp _ _ _ _ _
  refine wp_seq ?_
  obtain ⟨w1, hw1⟩ : ∃ w, w = w0.drew := ⟨_, rfl⟩
  have G1 : w0.grownBy w1 none := hw1 ▸ grown_drew _
  have R_1 := R_0.gn G1
  have TP_1 := TP_0.gn G1 (Nat.lt_of_lt_of_le hgt Hb_0)
  have Bl_1 := below_gn Bl_0 Hb_0 G1
  have Hb_1 := Nat.le_trans Hb_0 G1.size
  refine rg_still hw1 hmix (by kernel_rfl) ?_
  have h9_21 := u21.w (u20.w (u19.w (u18.w (u17.w (u16.w (u15.w h9_14))))))
  refine st_p (ex_mv h9_21) F21.l fun a22 u22 h50_22 => ?_
  have F22 := F21.pt u22
  have h11_22 := u22.w (u21.w (u20.w (u19.w (u18.w (u17.w h11_16)))))
  refine st_p (ex_mv h11_22) F22.l fun a23 u23 h51_23 => ?_
  have F23 := F22.pt u23
  refine st_p (ex_bin (v := (.int .u64 eb)) (u23.w h50_22) h51_23 (bo_shr_r x eb 23 (by decide) h2 _)) F23.l fun a24 u24 h52_24 => ?_
  have F24 := F23.pt u24
  refine st_p (ex_conv (vx := (.int .u64 eb)) (v := (.int .i64 eb)) h52_24 (cv_u64_i eb (by omega) (by omega) _)) F24.l fun a25 u25 h53_25 => ?_
  have F25 := F24.pt u25
  have h10_25 := u25.w (u24.w (u23.w (u22.w (u21.w (u20.w (u19.w (u18.w (u17.w (u16.w h10_15)))))))))
  refine st_p (ex_mv h10_25) F25.l fun a26 u26 h54_26 => ?_
  have F26 := F25.pt u26
  refine st_p (ex_bin (vx := (.int .i64 1)) (v := (.int .i64 256)) rfl h54_26 (by kernel_rfl)) F26.l fun a27 u27 h55_27 => ?_
  have F27 := F26.pt u27
  refine st_p (ex_bin (vy := (.int .i64 1)) (v := (.int .i64 255)) h55_27 rfl (by kernel_rfl)) F27.l fun a28 u28 h56_28 => ?_
  have F28 := F27.pt u28
  have h53_28 := u28.w (u27.w (u26.w h53_25))
  refine st_p (ex_bin (v := (.int .i64 eb)) h53_28 h56_28 (bo_andi_r eb 255 eb h3 _)) F28.l fun a29 u29 h57_29 => ?_
  have F29 := F28.pt u29
  refine st_p (ex_as h57_29) F29.l fun a30 u30 h14_30 => ?_
  have F30 := F29.pt u30
  change Code.wp _ _ _ _ _
  refine wp_seq ?_
  refine rg_list ?_
  have h9_30 := u30.w (u29.w (u28.w (u27.w (u26.w (u25.w (u24.w (u23.w (u22.w h9_21))))))))
  refine wl_p (ex_mv h9_30) F30.l fun a31 u31 h58_31 => ?_
  have F31 := F30.pt u31
  have h11_31 := u31.w (u30.w (u29.w (u28.w (u27.w (u26.w (u25.w (u24.w (u23.w h11_22))))))))
  refine wl_p (ex_mv h11_31) F31.l fun a32 u32 h59_32 => ?_
  have F32 := F31.pt u32
  refine wl_p (ex_bin (vx := (.int .u64 1)) (v := (.int .u64 8388608)) rfl h59_32 (by kernel_rfl)) F32.l fun a33 u33 h60_33 => ?_
  have F33 := F32.pt u33
  refine wl_p (ex_bin (vy := (.int .u64 1)) (v := (.int .u64 8388607)) h60_33 rfl (by kernel_rfl)) F33.l fun a34 u34 h61_34 => ?_
  have F34 := F33.pt u34
  have h58_34 := u34.w (u33.w (u32.w h58_31))
  refine wl_p (ex_bin (v := (.int .u64 mt)) h58_34 h61_34 (bo_andu_r x 8388607 mt h4 _)) F34.l fun a35 u35 h62_35 => ?_
  have F35 := F34.pt u35
  refine wl_p (ex_as h62_35) F35.l fun a36 u36 h15_36 => ?_
  have F36 := F35.pt u36
  change Code.wp _ _ _ _ _
  refine wp_seq ?_
  refine wp_seq ?_
  refine rg_list ?_
  have h14_36 := u36.w (u35.w (u34.w (u33.w (u32.w (u31.w h14_30)))))
  refine wl_p (ex_mv h14_36) F36.l fun a37 u37 h63_37 => ?_
  have F37 := F36.pt u37
  have h10_37 := u37.w (u36.w (u35.w (u34.w (u33.w (u32.w (u31.w (u30.w (u29.w (u28.w (u27.w (u26.w h10_25)))))))))))
  refine wl_p (ex_mv h10_37) F37.l fun a38 u38 h64_38 => ?_
  have F38 := F37.pt u38
  refine wl_p (ex_bin (vx := (.int .i64 1)) (v := (.int .i64 256)) rfl h64_38 (by kernel_rfl)) F38.l fun a39 u39 h65_39 => ?_
  have F39 := F38.pt u39
  refine wl_p (ex_bin (vy := (.int .i64 1)) (v := (.int .i64 255)) h65_39 rfl (by kernel_rfl)) F39.l fun a40 u40 h66_40 => ?_
  have F40 := F39.pt u40
  have h63_40 := u40.w (u39.w (u38.w h63_37))
  refine wl_p (ex_bin (v := (.bool false)) h63_40 h66_40 (bo_eqz_r eb 255 false (by simp; omega) _)) F40.l fun a41 u41 h67_41 => ?_
  have F41 := F40.pt u41
  change Code.wp _ _ _ _ _
  refine wp_cond_false h67_41 ?_
  refine wp_skip ?_
  change Code.wp _ _ _ _ _
  refine wp_seq ?_
  refine wp_seq ?_
  refine rg_list ?_
  have h14_41 := u41.w (u40.w (u39.w (u38.w (u37.w h14_36))))
  refine wl_p (ex_mv h14_41) F41.l fun a42 u42 h77_42 => ?_
  have F42 := F41.pt u42
  refine wl_p (ex_bin (vy := (.int .i64 0)) (v := (.bool false)) h77_42 rfl (bo_eqz_r eb 0 false (by simp; omega) _)) F42.l fun a43 u43 h78_43 => ?_
  have F43 := F42.pt u43
  change Code.wp _ _ _ _ _
  refine wp_cond_false h78_43 ?_
  refine rg_list ?_
  have h15_43 := u43.w (u42.w (u41.w (u40.w (u39.w (u38.w (u37.w h15_36))))))
  refine wl_p (ex_mv h15_43) F43.l fun a44 u44 h81_44 => ?_
  have F44 := F43.pt u44
  have h11_44 := u44.w (u43.w (u42.w (u41.w (u40.w (u39.w (u38.w (u37.w (u36.w (u35.w (u34.w (u33.w (u32.w h11_31))))))))))))
  refine wl_p (ex_mv h11_44) F44.l fun a45 u45 h82_45 => ?_
  have F45 := F44.pt u45
  refine wl_p (ex_bin (vx := (.int .u64 1)) (v := (.int .u64 8388608)) rfl h82_45 (by kernel_rfl)) F45.l fun a46 u46 h83_46 => ?_
  have F46 := F45.pt u46
  refine wl_p (ex_bin (v := (.int .u64 mant)) (u46.w (u45.w h81_44)) h83_46 (bo_oru_r mt 8388608 mant h5 _)) F46.l fun a47 u47 h84_47 => ?_
  have F47 := F46.pt u47
  refine wl_p (ex_as h84_47) F47.l fun a48 u48 h15_48 => ?_
  have F48 := F47.pt u48
  change Code.wp _ _ _ _ _
  refine wp_seq ?_
  refine rg_list ?_
  have h14_48 := u48.w (u47.w (u46.w (u45.w (u44.w (u43.w (u42.w h14_41))))))
  refine wl_p (ex_mv h14_48) F48.l fun a49 u49 h85_49 => ?_
  have F49 := F48.pt u49
  have h12_49 := u49.w (u48.w (u47.w (u46.w (u45.w (u44.w (u43.w (u42.w (u41.w (u40.w (u39.w (u38.w (u37.w (u36.w (u35.w (u34.w (u33.w (u32.w (u31.w (u30.w (u29.w (u28.w (u27.w (u26.w (u25.w (u24.w (u23.w (u22.w (u21.w (u20.w (u19.w (u18.w (u17.w (u16.w (u15.w h12_14))))))))))))))))))))))))))))))))))
  refine wl_p (ex_mv h12_49) F49.l fun a50 u50 h86_50 => ?_
  have F50 := F49.pt u50
  refine wl_p (ex_bin (v := (.int .i64 (eb - 127))) (u50.w h85_49) h86_50 (bo_addz_r eb (-127) (eb - 127) (by omega) _ (by omega) (by omega))) F50.l fun a51 u51 h87_51 => ?_
  have F51 := F50.pt u51
  refine wl_p (ex_as h87_51) F51.l fun a52 u52 h14_52 => ?_
  have F52 := F51.pt u52
  change Code.wp _ _ _ _ _
  refine wp_seq ?_
  refine wp_seq ?_
  refine rg_list ?_
  have h2_52 := u52.w (u51.w (u50.w (u49.w (u48.w (u47.w (u46.w (u45.w (u44.w (u43.w (u42.w (u41.w (u40.w (u39.w (u38.w (u37.w (u36.w (u35.w (u34.w (u33.w (u32.w (u31.w (u30.w (u29.w (u28.w (u27.w (u26.w (u25.w (u24.w (u23.w (u22.w (u21.w (u20.w (u19.w (u18.w (u17.w (u16.w (u15.w (u14.w (u13.w (u12.w (u11.w (u10.w (u9.w (u8.w (u7.w (u6.w (u5.w (u4.w (u3.w (u2.w (u1.w h2_0)))))))))))))))))))))))))))))))))))))))))))))))))))
  refine wl_p (ex_mv h2_52) F52.l fun a53 u53 h88_53 => ?_
  have F53 := F52.pt u53
  refine wl_p (ex_bin (vy := (.int .u8 98)) (v := (.bool false)) h88_53 rfl (by kernel_rfl)) F53.l fun a54 u54 h89_54 => ?_
  have F54 := F53.pt u54
  change Code.wp _ _ _ _ _
  refine wp_cond_false h89_54 ?_
  refine wp_skip ?_
  change Code.wp _ _ _ _ _
  refine wp_seq ?_
  refine wp_seq ?_
  refine rg_list ?_
  refine wl_p (ex_mv (u54.w (u53.w h2_52))) F54.l fun a55 u55 h97_55 => ?_
  have F55 := F54.pt u55
  refine wl_p (ex_bin (vy := (.int .u8 120)) (v := (.bool false)) h97_55 rfl (by kernel_rfl)) F55.l fun a56 u56 h98_56 => ?_
  have F56 := F55.pt u56
  refine wl_p (ex_mv h98_56) F56.l fun a57 u57 h99_57 => ?_
  have F57 := F56.pt u57
  have h2_57 := u57.w (u56.w (u55.w (u54.w (u53.w h2_52))))
  refine wl_g (yl (e := 99) rfl h99_57) (ex_mv h2_57) F57.l fun a58 u58 h100_58 => ?_
  have F58 := F57.pt u58
  refine wl_g (yl (e := 99) rfl (u58.w h99_57)) (ex_bin (vy := (.int .u8 88)) (v := (.bool false)) h100_58 rfl (by kernel_rfl)) F58.l fun a59 u59 h101_59 => ?_
  have F59 := F58.pt u59
  refine wl_p (ex_pick (q := false) (u59.w (u58.w h99_57)) h101_59) F59.l fun a60 u60 h102_60 => ?_
  have F60 := F59.pt u60
  change Code.wp _ _ _ _ _
  refine wp_cond_false h102_60 ?_
  refine wp_skip ?_
  change Code.wp _ _ _ _ _
  refine wp_seq ?_
  refine wp_seq ?_
  refine rg_list ?_
  have h15_60 := u60.w (u59.w (u58.w (u57.w (u56.w (u55.w (u54.w (u53.w (u52.w (u51.w (u50.w (u49.w h15_48)))))))))))
  refine wl_p (ex_mv h15_60) F60.l fun a61 u61 h111_61 => ?_
  have F61 := F60.pt u61
  refine wl_p (ex_bin (vy := (.int .u64 0)) (v := (.bool false)) h111_61 rfl (bo_equ_r mant 0 false (by simp; omega) _)) F61.l fun a62 u62 h112_62 => ?_
  have F62 := F61.pt u62
  change Code.wp _ _ _ _ _
  refine wp_cond_false h112_62 ?_
  refine wp_skip ?_
  change Code.wp _ _ _ _ _
  refine wp_seq ?_
  refine wp_seq ?_
  refine rg_list ?_
  have h3_62 := u62.w (u61.w (u60.w (u59.w (u58.w (u57.w (u56.w (u55.w (u54.w (u53.w (u52.w (u51.w (u50.w (u49.w (u48.w (u47.w (u46.w (u45.w (u44.w (u43.w (u42.w (u41.w (u40.w (u39.w (u38.w (u37.w (u36.w (u35.w (u34.w (u33.w (u32.w (u31.w (u30.w (u29.w (u28.w (u27.w (u26.w (u25.w (u24.w (u23.w (u22.w (u21.w (u20.w (u19.w (u18.w (u17.w (u16.w (u15.w (u14.w (u13.w (u12.w (u11.w (u10.w (u9.w (u8.w (u7.w (u6.w (u5.w (u4.w (u3.w (u2.w (u1.w h3_0)))))))))))))))))))))))))))))))))))))))))))))))))))))))))))))
  refine wl_p (ex_mv h3_62) F62.l fun a63 u63 h120_63 => ?_
  have F63 := F62.pt u63
  refine wl_p (ex_bin (vy := (.int .i64 0)) (v := (.bool false)) h120_63 rfl (by kernel_rfl)) F63.l fun a64 u64 h121_64 => ?_
  have F64 := F63.pt u64
  change Code.wp _ _ _ _ _
  refine wp_cond_false h121_64 ?_
  refine wp_skip ?_
  change Code.wp _ _ _ _ _
  refine wp_seq ?_
  refine wp_seq ?_
  refine rg_list ?_
  refine wl_p (ex_ld (v := .bool true) (ad := ⟨4, 0, none⟩) (fun _ => by kernel_rfl) rfl TP_1.o) F64.l fun a65 u65 h173_65 => ?_
  have F65 := F64.pt u65
  change Code.wp _ _ _ _ _
  refine wp_cond_true h173_65 ?_
  refine wp_seq ?_
  refine rg_list ?_
  have h3_65 := u65.w (u64.w (u63.w h3_62))
  refine wl_p (ex_mv h3_65) F65.l fun a66 u66 h174_66 => ?_
  have F66 := F65.pt u66
  refine wl_p (ex_as h174_66) F66.l fun a67 u67 h24_67 => ?_
  have F67 := F66.pt u67
  change Code.wp _ _ _ _ _
  refine wp_seq ?_
  refine wp_seq ?_
  refine rg_list ?_
  have h2_67 := u67.w (u66.w (u65.w (u64.w (u63.w (u62.w (u61.w (u60.w (u59.w (u58.w h2_57)))))))))
  refine wl_p (ex_mv h2_67) F67.l fun a68 u68 h175_68 => ?_
  have F68 := F67.pt u68
  change Code.wp _ _ _ _ _
  refine wp_block ?_
  refine wp_seq ?_
  refine rg_list ?_
  refine wl_p (ex_bin (vy := (.int .u8 102)) (v := (.bool true)) h175_68 rfl (by kernel_rfl)) F68.l fun a69 u69 h177_69 => ?_
  have F69 := F68.pt u69
  refine wl_p (ex_as h177_69) F69.l fun a70 u70 h176_70 => ?_
  have F70 := F69.pt u70
  change Code.wp _ _ _ _ _
  refine wp_cond_true h176_70 ?_
  refine wp_seq ?_
  refine rg_list ?_
  have h14_70 := u70.w (u69.w (u68.w (u67.w (u66.w (u65.w (u64.w (u63.w (u62.w (u61.w (u60.w (u59.w (u58.w (u57.w (u56.w (u55.w (u54.w (u53.w h14_52)))))))))))))))))
  refine wl_p (ex_mv h14_70) F70.l fun a71 u71 h178_71 => ?_
  have F71 := F70.pt u71
  refine wl_p (ex_bin (vy := (.int .i64 0)) (v := (.bool false)) h178_71 rfl (bo_geq_r (eb - 127) 0 false (by rw [decide_eq_false (by omega)]) _)) F71.l fun a72 u72 h179_72 => ?_
  have F72 := F71.pt u72
  change Code.wp _ _ _ _ _
  refine wp_cond_false h179_72 ?_
  refine rg_list ?_
  have h3_72 := u72.w (u71.w (u70.w (u69.w (u68.w (u67.w (u66.w h3_65))))))
  refine wl_p (ex_mv h3_72) F72.l fun a73 u73 h186_73 => ?_
  have F73 := F72.pt u73
  refine wl_p (ex_bin (vx := (.int .i64 1)) (v := (.int .i64 4)) rfl h186_73 (by kernel_rfl)) F73.l fun a74 u74 h187_74 => ?_
  have F74 := F73.pt u74
  have h14_74 := u74.w (u73.w (u72.w (u71.w h14_70)))
  refine wl_p (ex_mv h14_74) F74.l fun a75 u75 h188_75 => ?_
  have F75 := F74.pt u75
  refine wl_p (ex_un (vx := (.int .i64 (eb - 127))) (v := .int .i64 (-(eb - 127))) h188_75 (uo_neg _ _ (by omega) (by omega))) F75.l fun a76 u76 h189_76 => ?_
  have F76 := F75.pt u76
  refine wl_cl (args := #[(.int .i64 (-(eb - 127)))]) (R := fun v w' => v = .int .i64 (((-(eb - 127))) * 78913 / 262144) ∧ w1 = w') (ex_cl (fun _ _ => by kernel_rfl) (arg1 h189_76)) ((l10_any ((-(eb - 127))) (by omega) (by omega) w1).mono fun _ _ h => ⟨_, h.1, rfl, h.2⟩) F76.l ?_
  rintro v w' ⟨rfl, rfl⟩
  intro a77 u77 h190_77
  have F77 := F76.pt u77
  have h187_77 := u77.w (u76.w (u75.w h187_74))
  refine wl_p (ex_bin (v := (.int .i64 n)) h187_77 h190_77 (bo_subz_r 4 ((-(eb - 127)) * 78913 / 262144) n hdg _ (by omega) (by omega))) F77.l fun a78 u78 h191_78 => ?_
  have F78 := F77.pt u78
  refine wl_p (ex_as h191_78) F78.l fun a79 u79 h24_79 => ?_
  have F79 := F78.pt u79
  change Code.wp _ _ _ _ _
  refine wp_seq ?_
  refine rg_list ?_
  refine wl_p (ex_mv h24_79) F79.l fun a80 u80 h203_80 => ?_
  have F80 := F79.pt u80
  refine wl_p (ex_bin (vy := (.int .i64 18)) (v := (.bool true)) h203_80 rfl (bo_leq_r n 18 true (by rw [decide_eq_true (by omega)]) _)) F80.l fun a81 u81 h204_81 => ?_
  have F81 := F80.pt u81
  change Code.wp _ _ _ _ _
  refine wp_cond_true h204_81 ?_
  refine wp_seq ?_
  refine rg_list ?_
  obtain ⟨g16, hg16⟩ : ∃ g, w1.heap.size = g := ⟨_, rfl⟩
  have hgB : B ≤ g16 := by have := Hb_1; omega
  obtain ⟨w2, hr2, B16_2, G2, hs2⟩ := al_run (op := Instr.alloc 133 true (.tuple #[])) (T := 133) (cs := #[(.int .u8 0), (.int .u8 0), (.int .u8 0), (.int .u8 0), (.int .u8 0), (.int .u8 0), (.int .u8 0), (.int .u8 0), (.int .u8 0), (.int .u8 0), (.int .u8 0), (.int .u8 0), (.int .u8 0), (.int .u8 0), (.int .u8 0), (.int .u8 0), (.int .u8 0), (.int .u8 0), (.int .u8 0), (.int .u8 0), (.int .u8 0), (.int .u8 0), (.int .u8 0), (.int .u8 0)]) hg16 (fun _ => by kernel_rfl)
  have R_2 := R_1.gn G2
  have TP_2 := TP_1.gn G2 (Nat.lt_of_lt_of_le hgt Hb_1)
  have Bl_2 := below_gn Bl_1 Hb_1 G2
  have Hb_2 := Nat.le_trans Hb_1 G2.size
  refine wl_p (ex_al hr2) F81.l fun a82 u82 (h25_82 : a82.tmps.getD 25 undef = (.pointer (some ⟨g16, 0, none⟩))) => ?_
  have F82 := F81.pt u82
  change Code.wp _ _ _ _ _
  refine wp_seq ?_
  refine rg_list ?_
  refine wl_p (ex_as (v := (.int .i64 0)) rfl) F82.l fun a83 u83 h26_83 => ?_
  have F83 := F82.pt u83
  refine wl_p (ex_as (v := (.int .i64 0)) rfl) F83.l fun a84 u84 h27_84 => ?_
  have F84 := F83.pt u84
  change Code.wp _ _ _ _ _
  refine wp_seq ?_
  refine wp_seq ?_
  refine rg_list ?_
  have h24_84 := u84.w (u83.w (u82.w (u81.w (u80.w h24_79))))
  refine wl_p (ex_mv h24_84) F84.l fun a85 u85 h205_85 => ?_
  have F85 := F84.pt u85
  refine wl_p (ex_bin (vy := (.int .i64 0)) (v := (.bool true)) h205_85 rfl (bo_gtr_r n 0 true (by rw [decide_eq_true (by omega)]) _)) F85.l fun a86 u86 h206_86 => ?_
  have F86 := F85.pt u86
  change Code.wp _ _ _ _ _
  refine wp_cond_true h206_86 ?_
  refine wp_seq ?_
  refine rg_list ?_
  have h15_86 := u86.w (u85.w (u84.w (u83.w (u82.w (u81.w (u80.w (u79.w (u78.w (u77.w (u76.w (u75.w (u74.w (u73.w (u72.w (u71.w (u70.w (u69.w (u68.w (u67.w (u66.w (u65.w (u64.w (u63.w (u62.w (u61.w h15_60)))))))))))))))))))))))))
  refine wl_p (ex_mv h15_86) F86.l fun a87 u87 h207_87 => ?_
  have F87 := F86.pt u87
  refine wl_cl (args := #[(.int .u64 mant)]) (R := fun v w' => v = .int .i64 24 ∧ w2 = w') (ex_cl (fun _ _ => by kernel_rfl) (arg1 h207_87)) ((len64_any mant w2 (by omega) (by omega)).mono fun _ _ h => ⟨_, h.1.trans (by rw [hbl]; rfl), rfl, h.2.symm⟩) F87.l ?_
  rintro v w' ⟨rfl, rfl⟩
  intro a88 u88 h208_88
  have F88 := F87.pt u88
  refine wl_p (ex_bin (vx := (.int .i64 64)) (v := (.int .i64 40)) rfl h208_88 (by kernel_rfl)) F88.l fun a89 u89 h209_89 => ?_
  have F89 := F88.pt u89
  refine wl_p (ex_as h209_89) F89.l fun a90 u90 h28_90 => ?_
  have F90 := F89.pt u90
  change Code.wp _ _ _ _ _
  refine wp_seq ?_
  refine rg_list ?_
  have h15_90 := u90.w (u89.w (u88.w (u87.w h15_86)))
  refine wl_p (ex_mv h15_90) F90.l fun a91 u91 h210_91 => ?_
  have F91 := F90.pt u91
  refine wl_p (ex_mv (u91.w h28_90)) F91.l fun a92 u92 h211_92 => ?_
  have F92 := F91.pt u92
  refine wl_p (ex_bin (v := (.int .u64 m)) (u92.w h210_91) h211_92 (bo_shl_r mant m 40 (by decide) h6 _)) F92.l fun a93 u93 h212_93 => ?_
  have F93 := F92.pt u93
  refine wl_p (ex_as h212_93) F93.l fun a94 u94 h29_94 => ?_
  have F94 := F93.pt u94
  change Code.wp _ _ _ _ _
  refine wp_seq ?_
  refine rg_list ?_
  have h14_94 := u94.w (u93.w (u92.w (u91.w (u90.w (u89.w (u88.w (u87.w (u86.w (u85.w (u84.w (u83.w (u82.w (u81.w (u80.w (u79.w (u78.w (u77.w (u76.w (u75.w h14_74)))))))))))))))))))
  refine wl_p (ex_mv h14_94) F94.l fun a95 u95 h213_95 => ?_
  have F95 := F94.pt u95
  have h28_95 := u95.w (u94.w (u93.w (u92.w (u91.w h28_90))))
  refine wl_p (ex_mv h28_95) F95.l fun a96 u96 h214_96 => ?_
  have F96 := F95.pt u96
  refine wl_p (ex_bin (v := (.int .i64 (eb - 127 - 40))) (u96.w h213_95) h214_96 (bo_subz_r (eb - 127) 40 (eb - 127 - 40) rfl _ (by omega) (by omega))) F96.l fun a97 u97 h215_97 => ?_
  have F97 := F96.pt u97
  refine wl_p (ex_as h215_97) F97.l fun a98 u98 h30_98 => ?_
  have F98 := F97.pt u98
  change Code.wp _ _ _ _ _
  refine wp_seq ?_
  refine rg_list ?_
  have h29_98 := u98.w (u97.w (u96.w (u95.w h29_94)))
  refine wl_p (ex_mv h29_98) F98.l fun a99 u99 h217_99 => ?_
  have F99 := F98.pt u99
  refine wl_p (ex_mv (u99.w h30_98)) F99.l fun a100 u100 h218_100 => ?_
  have F100 := F99.pt u100
  have h11_100 := u100.w (u99.w (u98.w (u97.w (u96.w (u95.w (u94.w (u93.w (u92.w (u91.w (u90.w (u89.w (u88.w (u87.w (u86.w (u85.w (u84.w (u83.w (u82.w (u81.w (u80.w (u79.w (u78.w (u77.w (u76.w (u75.w (u74.w (u73.w (u72.w (u71.w (u70.w (u69.w (u68.w (u67.w (u66.w (u65.w (u64.w (u63.w (u62.w (u61.w (u60.w (u59.w (u58.w (u57.w (u56.w (u55.w (u54.w (u53.w (u52.w (u51.w (u50.w (u49.w (u48.w (u47.w (u46.w (u45.w h11_44)))))))))))))))))))))))))))))))))))))))))))))))))))))))
  refine wl_p (ex_mv h11_100) F100.l fun a101 u101 h219_101 => ?_
  have F101 := F100.pt u101
  refine wl_p (ex_bin (v := (.int .i64 e2)) (u101.w h218_100) h219_101 (bo_subz_r (eb - 127 - 40) 23 e2 he _ (by omega) (by omega))) F101.l fun a102 u102 h220_102 => ?_
  have F102 := F101.pt u102
  have h24_102 := u102.w (u101.w (u100.w (u99.w (u98.w (u97.w (u96.w (u95.w (u94.w (u93.w (u92.w (u91.w (u90.w (u89.w (u88.w (u87.w (u86.w (u85.w h24_84)))))))))))))))))
  refine wl_p (ex_mv h24_102) F102.l fun a103 u103 h221_103 => ?_
  have F103 := F102.pt u103
  have h3_103 := u103.w (u102.w (u101.w (u100.w (u99.w (u98.w (u97.w (u96.w (u95.w (u94.w (u93.w (u92.w (u91.w (u90.w (u89.w (u88.w (u87.w (u86.w (u85.w (u84.w (u83.w (u82.w (u81.w (u80.w (u79.w (u78.w (u77.w (u76.w (u75.w (u74.w (u73.w h3_72))))))))))))))))))))))))))))))
  refine wl_p (ex_mv h3_103) F103.l fun a104 u104 h222_104 => ?_
  have F104 := F103.pt u104
  have h2_104 := u104.w (u103.w (u102.w (u101.w (u100.w (u99.w (u98.w (u97.w (u96.w (u95.w (u94.w (u93.w (u92.w (u91.w (u90.w (u89.w (u88.w (u87.w (u86.w (u85.w (u84.w (u83.w (u82.w (u81.w (u80.w (u79.w (u78.w (u77.w (u76.w (u75.w (u74.w (u73.w (u72.w (u71.w (u70.w (u69.w (u68.w h2_67))))))))))))))))))))))))))))))))))))
  refine wl_p (ex_mv h2_104) F104.l fun a105 u105 h223_105 => ?_
  have F105 := F104.pt u105
  have h217_105 := u105.w (u104.w (u103.w (u102.w (u101.w (u100.w h217_99)))))
  have h220_105 := u105.w (u104.w (u103.w h220_102))
  refine wl_cl (args := #[(.int .u64 m), (.int .i64 e2), (.int .i64 n), (.int .i64 3), (.int .u8 102)]) (R := fun v w' => v = .tuple #[.int .u64 d, .int .i64 (-3)] ∧ w2.grownBy w' none) (ex_cl (fun _ _ => by kernel_rfl) (arg5 h217_105 h220_105 (u105.w (u104.w h221_103)) (u105.w h222_104) h223_105)) ((fixed_any hS w2 TP_2 (Nat.lt_of_lt_of_le hgt Hb_2)).mono fun _ _ h => ⟨_, h.1, rfl, h.2⟩) F105.l ?_
  rintro v w3 ⟨rfl, G3⟩
  have B16_3 := B16_2.gn G3
  have R_3 := R_2.gn G3
  have TP_3 := TP_2.gn G3 (Nat.lt_of_lt_of_le hgt Hb_2)
  have Bl_3 := below_gn Bl_2 Hb_2 G3
  have Hb_3 := Nat.le_trans Hb_2 G3.size
  intro a106 u106 h224_106
  have F106 := F105.pt u106
  refine wl_p (ex_mv h224_106) F106.l fun a107 u107 h216_107 => ?_
  have F107 := F106.pt u107
  refine wl_p (ex_ext (vs := #[(.int .u64 d), (.int .i64 (-3))]) (v := (.int .u64 d)) h216_107 rfl) F107.l fun a108 u108 h225_108 => ?_
  have F108 := F107.pt u108
  refine wl_p (ex_ext (vs := #[(.int .u64 d), (.int .i64 (-3))]) (v := (.int .i64 (-3))) (u108.w h216_107) rfl) F108.l fun a109 u109 h226_109 => ?_
  have F109 := F108.pt u109
  refine wl_p (ex_as (u109.w h225_108)) F109.l fun a110 u110 h31_110 => ?_
  have F110 := F109.pt u110
  refine wl_p (ex_as (u110.w h226_109)) F110.l fun a111 u111 h32_111 => ?_
  have F111 := F110.pt u111
  change Code.wp _ _ _ _ _
  refine wp_seq ?_
  refine rg_list ?_
  refine wl_p (ex_mv (u111.w h31_110)) F111.l fun a112 u112 h227_112 => ?_
  have F112 := F111.pt u112
  refine wl_p (ex_bin (vy := (.int .u64 0)) (v := (.bool true)) h227_112 rfl (bo_neu_r d 0 true (by simp; omega) _)) F112.l fun a113 u113 h228_113 => ?_
  have F113 := F112.pt u113
  change Code.wp _ _ _ _ _
  refine wp_cond_true h228_113 ?_
  obtain ⟨w4, hw4⟩ : ∃ w, w = w3.drew := ⟨_, rfl⟩
  have G4 : w3.grownBy w4 none := hw4 ▸ grown_drew _
  have B16_4 := B16_3.gn G4
  have R_4 := R_3.gn G4
  have TP_4 := TP_3.gn G4 (Nat.lt_of_lt_of_le hgt Hb_3)
  have Bl_4 := below_gn Bl_3 Hb_3 G4
  have Hb_4 := Nat.le_trans Hb_3 G4.size
  refine rg_tree (S := fun _ => True) [] 11 hw4 ⟨rfl, by decide⟩ hmix (by kernel_rfl) (by kernel_rfl) (trivial) ?_
  have h25_113 := u113.w (u112.w (u111.w (u110.w (u109.w (u108.w (u107.w (u106.w (u105.w (u104.w (u103.w (u102.w (u101.w (u100.w (u99.w (u98.w (u97.w (u96.w (u95.w (u94.w (u93.w (u92.w (u91.w (u90.w (u89.w (u88.w (u87.w (u86.w (u85.w (u84.w (u83.w h25_82))))))))))))))))))))))))))))))
  refine tree_take (j := 0) rfl (by kernel_rfl) (by kernel_rfl) (by kernel_rfl) (fun w hw => ex_sl (v := .slice (some ⟨g16, 0, none⟩) 24 24) h25_113 rfl rfl rfl (sl133_run g16 _)) (trivial) F113.l fun a114 u114 h230_114 => ?_
  have F114 := F113.pt u114
  have h31_114 := u114.w (u113.w (u112.w (u111.w h31_110)))
  refine tree_take (j := 1) rfl (by kernel_rfl) (by kernel_rfl) (by kernel_rfl) (fun w hw => ex_mv h31_114) (trivial) F114.l fun a115 u115 h231_115 => ?_
  have F115 := F114.pt u115
  have h32_115 := u115.w (u114.w (u113.w (u112.w h32_111)))
  refine tree_take (j := 2) rfl (by kernel_rfl) (by kernel_rfl) (by kernel_rfl) (fun w hw => ex_mv h32_115) (trivial) F115.l fun a116 u116 h232_116 => ?_
  have F116 := F115.pt u116
  refine tree_take (j := 3) rfl (by kernel_rfl) (by kernel_rfl) (by kernel_rfl) (fun w hw => ex_mv (u116.w (u115.w h31_114))) (trivial) F116.l fun a117 u117 h233_117 => ?_
  have F117 := F116.pt u117
  refine tree1 (j := 4) (by kernel_rfl) ?_
  refine tk_cl (args := #[(.int .u64 d)]) (R := fun v w' => v = .int .i64 (Lib.nDigits d) ∧ w4 = w') rfl (ex_cl (fun _ _ => by kernel_rfl) (arg1 h233_117)) ((numD_any d w4 hd1 (by omega) TP_4).mono fun _ _ h => ⟨_, h.1, rfl, h.2.symm⟩) F117.l ?_
  rintro v w' ⟨rfl, rfl⟩
  refine ⟨trivial, ?_⟩
  intro a118 u118 h234_118
  have F118 := F117.pt u118
  refine tree1 (j := 5) (by kernel_rfl) ?_
  have h230_118 := u118.w (u117.w (u116.w (u115.w h230_114)))
  have h231_118 := u118.w (u117.w (u116.w h231_115))
  refine tk_cl (args := #[(.slice (some ⟨g16, 0, none⟩) 24 24), (.int .u64 d), (.int .i64 (-3)), (.int .i64 (Lib.nDigits d))]) (R := fun v w' => v = .tuple #[.int .i64 dp, .int .i64 tr.length] ∧ (∃ cs, Blk w' g16 133 cs ∧ ∀ j (h : j < tr.length), cs[j]? = some (.int .u8 (tr[j].toNat))) ∧ w4.grownBy w' (some g16)) rfl (ex_cl (fun _ _ => by kernel_rfl) (arg4 h230_118 h231_118 (u118.w (u117.w h232_116)) h234_118)) ((setD_any g16 133 24 d z (-3) tr w4 (Blk.to B16_4 (by kernel_rfl)) hd1 hd2 (by decide) (by decide) hpp hdig htr0 hlast).mono fun _ _ h => ⟨_, h.1.trans (by rw [hdp]), rfl, h.2⟩) F118.l ?_
  rintro v w5 ⟨rfl, ⟨cs, B16_5, hcs⟩, G5⟩
  have R_5 := R_4.gk B16_4 (by decide) G5
  have TP_5 := TP_4.gk G5 (Nat.lt_of_lt_of_le hgt hgB) (Nat.lt_of_lt_of_le hgt Hb_4)
  have Bl_5 := below_gs Bl_4 Hb_4 G5 hgB
  have Hb_5 := Nat.le_trans Hb_4 G5.size
  refine ⟨trivial, ?_⟩
  intro a119 u119 h235_119
  have F119 := F118.pt u119
  refine tree_take (j := 6) rfl (by kernel_rfl) (by kernel_rfl) (by kernel_rfl) (fun w hw => ex_mv h235_119) (trivial) F119.l fun a120 u120 h229_120 => ?_
  have F120 := F119.pt u120
  refine tree_take (j := 7) rfl (by kernel_rfl) (by kernel_rfl) (by kernel_rfl) (fun w hw => ex_ext (vs := #[(.int .i64 dp), (.int .i64 tr.length)]) (v := (.int .i64 dp)) h229_120 rfl) (trivial) F120.l fun a121 u121 h236_121 => ?_
  have F121 := F120.pt u121
  refine tree_take (j := 8) rfl (by kernel_rfl) (by kernel_rfl) (by kernel_rfl) (fun w hw => ex_ext (vs := #[(.int .i64 dp), (.int .i64 tr.length)]) (v := (.int .i64 tr.length)) (u121.w h229_120) rfl) (trivial) F121.l fun a122 u122 h237_122 => ?_
  have F122 := F121.pt u122
  refine tree_take (j := 9) rfl (by kernel_rfl) (by kernel_rfl) (by kernel_rfl) (fun w hw => ex_as (u122.w h236_121)) (trivial) F122.l fun a123 u123 h26_123 => ?_
  have F123 := F122.pt u123
  refine tree_take (j := 10) rfl (by kernel_rfl) (by kernel_rfl) (by kernel_rfl) (fun w hw => ex_as (u123.w h237_122)) (trivial) F123.l fun a124 u124 h27_124 => ?_
  have F124 := F123.pt u124
  refine tree0 (by kernel_rfl) ?_
  change Code.wp _ _ _ _ _
  refine wp_seq ?_
  refine rg_list ?_
  have h0_124 := u124.w (u123.w (u122.w (u121.w (u120.w (u119.w (u118.w (u117.w (u116.w (u115.w (u114.w (u113.w (u112.w (u111.w (u110.w (u109.w (u108.w (u107.w (u106.w (u105.w (u104.w (u103.w (u102.w (u101.w (u100.w (u99.w (u98.w (u97.w (u96.w (u95.w (u94.w (u93.w (u92.w (u91.w (u90.w (u89.w (u88.w (u87.w (u86.w (u85.w (u84.w (u83.w (u82.w (u81.w (u80.w (u79.w (u78.w (u77.w (u76.w (u75.w (u74.w (u73.w (u72.w (u71.w (u70.w (u69.w (u68.w (u67.w (u66.w (u65.w (u64.w (u63.w (u62.w (u61.w (u60.w (u59.w (u58.w (u57.w (u56.w (u55.w (u54.w (u53.w (u52.w (u51.w (u50.w (u49.w (u48.w (u47.w (u46.w (u45.w (u44.w (u43.w (u42.w (u41.w (u40.w (u39.w (u38.w (u37.w (u36.w (u35.w (u34.w (u33.w (u32.w (u31.w (u30.w (u29.w (u28.w (u27.w (u26.w (u25.w (u24.w (u23.w (u22.w (u21.w (u20.w (u19.w (u18.w (u17.w (u16.w (u15.w (u14.w (u13.w (u12.w (u11.w (u10.w (u9.w (u8.w (u7.w (u6.w (u5.w (u4.w (u3.w (u2.w (u1.w h0_0)))))))))))))))))))))))))))))))))))))))))))))))))))))))))))))))))))))))))))))))))))))))))))))))))))))))))))))))))))))))))))
  refine wl_p (ex_mv h0_124) F124.l fun a125 u125 h238_125 => ?_
  have F125 := F124.pt u125
  have h13_125 := u125.w (u124.w (u123.w (u122.w (u121.w (u120.w (u119.w (u118.w (u117.w (u116.w (u115.w (u114.w (u113.w (u112.w (u111.w (u110.w (u109.w (u108.w (u107.w (u106.w (u105.w (u104.w (u103.w (u102.w (u101.w (u100.w (u99.w (u98.w (u97.w (u96.w (u95.w (u94.w (u93.w (u92.w (u91.w (u90.w (u89.w (u88.w (u87.w (u86.w (u85.w (u84.w (u83.w (u82.w (u81.w (u80.w (u79.w (u78.w (u77.w (u76.w (u75.w (u74.w (u73.w (u72.w (u71.w (u70.w (u69.w (u68.w (u67.w (u66.w (u65.w (u64.w (u63.w (u62.w (u61.w (u60.w (u59.w (u58.w (u57.w (u56.w (u55.w (u54.w (u53.w (u52.w (u51.w (u50.w (u49.w (u48.w (u47.w (u46.w (u45.w (u44.w (u43.w (u42.w (u41.w (u40.w (u39.w (u38.w (u37.w (u36.w (u35.w (u34.w (u33.w (u32.w (u31.w (u30.w (u29.w (u28.w (u27.w (u26.w (u25.w (u24.w (u23.w (u22.w h13_21)))))))))))))))))))))))))))))))))))))))))))))))))))))))))))))))))))))))))))))))))))))))))))))))))))))))
  refine wl_p (ex_mv h13_125) F125.l fun a126 u126 h239_126 => ?_
  have F126 := F125.pt u126
  have h25_126 := u126.w (u125.w (u124.w (u123.w (u122.w (u121.w (u120.w (u119.w (u118.w (u117.w (u116.w (u115.w (u114.w h25_113))))))))))))
  refine wl_p (ex_sl (v := .slice (some ⟨g16, 0, none⟩) 24 24) h25_126 rfl rfl rfl (sl133_run g16 _)) F126.l fun a127 u127 h240_127 => ?_
  have F127 := F126.pt u127
  have h26_127 := u127.w (u126.w (u125.w (u124.w h26_123)))
  refine wl_p (ex_mv h26_127) F127.l fun a128 u128 h241_128 => ?_
  have F128 := F127.pt u128
  have h27_128 := u128.w (u127.w (u126.w (u125.w h27_124)))
  refine wl_p (ex_mv h27_128) F128.l fun a129 u129 h242_129 => ?_
  have F129 := F128.pt u129
  have h3_129 := u129.w (u128.w (u127.w (u126.w (u125.w (u124.w (u123.w (u122.w (u121.w (u120.w (u119.w (u118.w (u117.w (u116.w (u115.w (u114.w (u113.w (u112.w (u111.w (u110.w (u109.w (u108.w (u107.w (u106.w (u105.w (u104.w h3_103)))))))))))))))))))))))))
  refine wl_p (ex_mv h3_129) F129.l fun a130 u130 h243_130 => ?_
  have F130 := F129.pt u130
  have h2_130 := u130.w (u129.w (u128.w (u127.w (u126.w (u125.w (u124.w (u123.w (u122.w (u121.w (u120.w (u119.w (u118.w (u117.w (u116.w (u115.w (u114.w (u113.w (u112.w (u111.w (u110.w (u109.w (u108.w (u107.w (u106.w (u105.w h2_104)))))))))))))))))))))))))
  refine wl_p (ex_mv h2_130) F130.l fun a131 u131 h244_131 => ?_
  have F131 := F130.pt u131
  have h238_131 := u131.w (u130.w (u129.w (u128.w (u127.w (u126.w h238_125)))))
  have h239_131 := u131.w (u130.w (u129.w (u128.w (u127.w h239_126))))
  have h240_131 := u131.w (u130.w (u129.w (u128.w h240_127)))
  have h241_131 := u131.w (u130.w (u129.w h241_128))
  refine wl_cl (args := #[v0, (.bool false), (.slice (some ⟨g16, 0, none⟩) 24 24), (.int .i64 dp), (.int .i64 tr.length), (.int .i64 3), (.int .u8 102), (.bool false)]) (R := fun v w' => BRow w' B v (l ++ efgT tr dp (3)) ∧ Below B w5 w') (ex_cl (fun _ _ => by kernel_rfl) (arg8 h238_131 h239_131 h240_131 h241_131 (u131.w (u130.w h242_129)) (u131.w h243_130) h244_131 rfl)) ((fmtEFG_any (ds := tr) (dp := dp) (prec := 3) R_5 (Or.inr ⟨g16, 133, 24, cs, by decide, rfl, by omega, B16_5, hcs⟩) Hb_5 (by omega) (by omega) (by omega) (by omega) hl).mono fun _ _ ⟨v, h1, h2, h3, _⟩ => ⟨v, h1, h2, h3⟩) F131.l ?_
  rintro vf w6 ⟨Rf, Blf⟩
  intro a132 u132 h245_132
  have F132 := F131.pt u132
  refine wl_p (ex_as h245_132) F132.l fun a133 u133 h8_133 => ?_
  have F133 := F132.pt u133
  change Code.wp _ _ _ _ _
  refine wp_ret ?_
  try simp only [Exit.then, Exit.inBlock]
  exact bodyPost_ret (v := vf) ((results_tmp rfl _ _ _).trans (by rw [h8_133])) F133.defers ⟨_, rfl, Rf, Bl_5.trans Blf⟩
end Go.Proofs.YtlphcidpaidclaaGreatDoor
