/-
  impl.WriteMedia, whole.
-/
import Derived.Test.YtlphcidpaidclaaGreatDoorWmp
namespace Go.Proofs.YtlphcidpaidclaaGreatDoor
open Go.RowKit
set_option maxRecDepth 100000
set_option maxHeartbeats 4000000

theorem wm_any {T seq ty dsq st ver win cap : Nat} {ifr clo pre wh : Bool} {sv kv mv : Value} {segs : List SegD} {key : Option KeyD} {map : Option MapD} {w0 : World}
    (hsv : SegSl w0 sv segs) (hks : KeySl w0 kv key) (hms : MapSl w0 mv map) (hlen : segs.length ≤ 1024) (hcap : cap = max 1 segs.length) (hwin : win ≤ cap) (hseq : seq < 9223372036854775808) (hT0 : T < 500) (hst : st < 301) (hver : ver < 100) (hty : ty = 0 ∨ ty = 2) (hdsq : dsq < 18446744073709551616)
    (hTs : ∀ j, j < segs.length → tmax T (segs.take j) < 500) (hTe : tmax T segs < 501) (hes : ∀ s, s ∈ segs → s.e < 4000) (hok : ∀ s, s ∈ segs → s.Ok ∧ (wh = true ∧ s.e < 4000 ∨ s.e < 160 ∧ FF32)) (hff : st = 0 ∨ FF64) (htab : TabP w0) (hgt : 7 < w0.heap.size) :
    Calls Tryz.prog 7 #[.agg #[(.float .f64 (fn T)), (.int .u64 seq), sv, (.string { data := #[] }), (.bool ifr), (.bool clo), (.int .i64 ty), (.int .u64 dsq), (.float .f64 (fb st)), (.bool pre), (.int .i64 ver), kv, mv, (.int .i64 win)], .bool wh] w0 fun e w' => ∃ gg kp mp, mp.isNone = map.isNone ∧ e = .returned (.tuple #[.string (bs (encT ⟨tmax T segs, seq, gg, ifr, clo, ty, dsq, st, pre, wh, win, cap, segs.length % cap, segs.length, ver, kp, mp⟩ key map segs)), .bool true]) ∧ Below w0.heap.size w0 w' := by
  refine calls_of_wp Tryz.func7 rfl ?_
  generalize hA : Act.mk _ _ = a0
  have F0 : Fz 201 a0 := by subst hA; exact ⟨by simp [Tryz.ntmps7], rfl⟩
  have h0_0 : a0.tmps.getD 0 undef = (.agg #[(.float .f64 (fn T)), (.int .u64 seq), sv, (.string { data := #[] }), (.bool ifr), (.bool clo), (.int .i64 ty), (.int .u64 dsq), (.float .f64 (fb st)), (.bool pre), (.int .i64 ver), kv, mv, (.int .i64 win)]) := by subst hA; exact fr_arg rfl
  have h1_0 : a0.tmps.getD 1 undef = (.bool wh) := by subst hA; exact fr_arg rfl
  clear hA
  have Kp0 := Kp.refl [] w0
  refine wp_seq ?_
  refine rg_list ?_
  obtain ⟨gm, hgm⟩ : ∃ g, w0.heap.size = g := ⟨_, rfl⟩
  have ge_m : w0.heap.size ≤ gm := by have := Kp0.size; omega
  obtain ⟨w1, hr1, Bm_1, G1, hs1⟩ := al_run (op := Instr.box 36 (.agg #[(.float .f64 (fn T)), (.int .u64 seq), sv, (.string { data := #[] }), (.bool ifr), (.bool clo), (.int .i64 ty), (.int .u64 dsq), (.float .f64 (fb st)), (.bool pre), (.int .i64 ver), kv, mv, (.int .i64 win)])) (T := 36) (cs := #[(.float .f64 (fn T)), (.int .u64 seq), sv, (.string { data := #[] }), (.bool ifr), (.bool clo), (.int .i64 ty), (.int .u64 dsq), (.float .f64 (fb st)), (.bool pre), (.int .i64 ver), kv, mv, (.int .i64 win)]) hgm (fun _ => by kernel_rfl)
  have Kp1 := Kp0.new G1
  refine wl_p (ex_bx h0_0 hr1) F0.l fun a1 u1 (h2_1 : a1.tmps.getD 2 undef = (.pointer (some ⟨gm, 0, none⟩))) => ?_
  have F1 := F0.pt u1
  clear hgm
  refine wl_p (ex_as (v := (.string { data := #[] })) rfl) F1.l fun a2 u2 h4_2 => ?_
  have F2 := F1.pt u2
  refine wl_p (ex_as (v := (.bool false)) rfl) F2.l fun a3 u3 h5_3 => ?_
  have F3 := F2.pt u3
  change Code.wp _ _ _ _ _
  refine wp_seq ?_
  refine wp_seq ?_
  refine rg_list ?_
  refine wl_p (ex_fb 2 (u3.w (u2.w h2_1))) F3.l fun a4 u4 h13_4 => ?_
  have F4 := F3.pt u4
  refine wl_p (ex_le (v := sv) h13_4 (Bm_1.cell 2)) F4.l fun a5 u5 h14_5 => ?_
  have F5 := F4.pt u5
  refine wl_p (ex_bi (w' := w1) (args := #[sv]) (v := (.int .i64 segs.length)) (arg1 h14_5) (hsv.len _)) F5.l fun a6 u6 h15_6 => ?_
  have F6 := F5.pt u6
  refine wl_p (ex_bin (vy := (.int .i64 1024)) (v := (.bool false)) h15_6 rfl ((bo_gtri _ _ _).trans (by rw [decide_eq_false (by omega)]))) F6.l fun a7 u7 h16_7 => ?_
  have F7 := F6.pt u7
  refine wl_p (ex_mv h16_7) F7.l fun a8 u8 h17_8 => ?_
  have F8 := F7.pt u8
  have h2_8 := u8.w (u7.w (u6.w (u5.w (u4.w (u3.w (u2.w h2_1))))))
  refine wl_g (yl (e := 17) rfl h17_8) (ex_fb 13 h2_8) F8.l fun a9 u9 h18_9 => ?_
  have F9 := F8.pt u9
  refine wl_g (yl (e := 17) rfl (u9.w h17_8)) (ex_le (v := (.int .i64 win)) h18_9 (Bm_1.cell 13)) F9.l fun a10 u10 h19_10 => ?_
  have F10 := F9.pt u10
  refine wl_g (yl (e := 17) rfl (u10.w (u9.w h17_8))) (ex_bin (vy := (.int .i64 0)) (v := (.bool false)) h19_10 rfl ((bo_lssi _ _ _).trans (by rw [decide_eq_false (by omega)]))) F10.l fun a11 u11 h20_11 => ?_
  have F11 := F10.pt u11
  have h17_11 := u11.w (u10.w (u9.w h17_8))
  refine wl_p (ex_pick (q := false) h17_11 h20_11) F11.l fun a12 u12 h21_12 => ?_
  have F12 := F11.pt u12
  refine wl_p (ex_mv h21_12) F12.l fun a13 u13 h22_13 => ?_
  have F13 := F12.pt u13
  have h2_13 := u13.w (u12.w (u11.w (u10.w (u9.w h2_8))))
  refine wl_g (yl (e := 22) rfl h22_13) (ex_fb 13 h2_13) F13.l fun a14 u14 h23_14 => ?_
  have F14 := F13.pt u14
  refine wl_g (yl (e := 22) rfl (u14.w h22_13)) (ex_le (v := (.int .i64 win)) h23_14 (Bm_1.cell 13)) F14.l fun a15 u15 h24_15 => ?_
  have F15 := F14.pt u15
  refine wl_g (yl (e := 22) rfl (u15.w (u14.w h22_13))) (ex_fb 2 (u15.w (u14.w h2_13))) F15.l fun a16 u16 h25_16 => ?_
  have F16 := F15.pt u16
  have h22_16 := u16.w (u15.w (u14.w h22_13))
  refine wl_g (yl (e := 22) rfl h22_16) (ex_le (v := sv) h25_16 (Bm_1.cell 2)) F16.l fun a17 u17 h26_17 => ?_
  have F17 := F16.pt u17
  refine wl_g (yl (e := 22) rfl (u17.w h22_16)) (ex_bi (w' := w1) (args := #[sv]) (v := (.int .i64 segs.length)) (arg1 h26_17) (hsv.len _)) F17.l fun a18 u18 h27_18 => ?_
  have F18 := F17.pt u18
  refine wl_g (yl (e := 22) rfl (u18.w (u17.w h22_16))) (ex_bi (w' := w1) (args := #[(.int .i64 1), (.int .i64 segs.length)]) (v := (.int .i64 cap)) (arg2 rfl h27_18) ((max_run _ _).trans (by rw [← hcap]))) F18.l fun a19 u19 h28_19 => ?_
  have F19 := F18.pt u19
  have h22_19 := u19.w (u18.w (u17.w h22_16))
  have h24_19 := u19.w (u18.w (u17.w (u16.w h24_15)))
  refine wl_g (yl (e := 22) rfl h22_19) (ex_bin (v := (.bool false)) h24_19 h28_19 ((bo_gtri _ _ _).trans (by rw [decide_eq_false (by omega)]))) F19.l fun a20 u20 h29_20 => ?_
  have F20 := F19.pt u20
  refine wl_p (ex_pick (q := false) (u20.w h22_19) h29_20) F20.l fun a21 u21 h30_21 => ?_
  have F21 := F20.pt u21
  refine wl_p (ex_mv h30_21) F21.l fun a22 u22 h31_22 => ?_
  have F22 := F21.pt u22
  have h2_22 := u22.w (u21.w (u20.w (u19.w (u18.w (u17.w (u16.w (u15.w (u14.w h2_13))))))))
  refine wl_g (yl (e := 31) rfl h31_22) (ex_fb 10 h2_22) F22.l fun a23 u23 h32_23 => ?_
  have F23 := F22.pt u23
  refine wl_g (yl (e := 31) rfl (u23.w h31_22)) (ex_le (v := (.int .i64 ver)) h32_23 (Bm_1.cell 10)) F23.l fun a24 u24 h33_24 => ?_
  have F24 := F23.pt u24
  refine wl_g (yl (e := 31) rfl (u24.w (u23.w h31_22))) (ex_bin (vy := (.int .i64 0)) (v := (.bool false)) h33_24 rfl ((bo_lssi _ _ _).trans (by rw [decide_eq_false (by omega)]))) F24.l fun a25 u25 h34_25 => ?_
  have F25 := F24.pt u25
  have h31_25 := u25.w (u24.w (u23.w h31_22))
  refine wl_p (ex_pick (q := false) h31_25 h34_25) F25.l fun a26 u26 h35_26 => ?_
  have F26 := F25.pt u26
  refine wl_p (ex_mv h35_26) F26.l fun a27 u27 h36_27 => ?_
  have F27 := F26.pt u27
  have h2_27 := u27.w (u26.w (u25.w (u24.w (u23.w h2_22))))
  refine wl_g (yl (e := 36) rfl h36_27) (ex_fb 10 h2_27) F27.l fun a28 u28 h37_28 => ?_
  have F28 := F27.pt u28
  refine wl_g (yl (e := 36) rfl (u28.w h36_27)) (ex_le (v := (.int .i64 ver)) h37_28 (Bm_1.cell 10)) F28.l fun a29 u29 h38_29 => ?_
  have F29 := F28.pt u29
  refine wl_g (yl (e := 36) rfl (u29.w (u28.w h36_27))) (ex_bin (vy := (.int .i64 255)) (v := (.bool false)) h38_29 rfl ((bo_gtri _ _ _).trans (by rw [decide_eq_false (by omega)]))) F29.l fun a30 u30 h39_30 => ?_
  have F30 := F29.pt u30
  have h36_30 := u30.w (u29.w (u28.w h36_27))
  refine wl_p (ex_pick (q := false) h36_30 h39_30) F30.l fun a31 u31 h40_31 => ?_
  have F31 := F30.pt u31
  refine wl_p (ex_mv h40_31) F31.l fun a32 u32 h41_32 => ?_
  have F32 := F31.pt u32
  have h2_32 := u32.w (u31.w (u30.w (u29.w (u28.w h2_27))))
  refine wl_g (yl (e := 41) rfl h41_32) (ex_fb 6 h2_32) F32.l fun a33 u33 h42_33 => ?_
  have F33 := F32.pt u33
  refine wl_g (yl (e := 41) rfl (u33.w h41_32)) (ex_le (v := (.int .i64 ty)) h42_33 (Bm_1.cell 6)) F33.l fun a34 u34 h43_34 => ?_
  have F34 := F33.pt u34
  refine wl_g (yl (e := 41) rfl (u34.w (u33.w h41_32))) (ex_bin (vy := (.int .i64 0)) (v := (.bool false)) h43_34 rfl ((bo_lssi _ _ _).trans (by rw [decide_eq_false (by omega)]))) F34.l fun a35 u35 h44_35 => ?_
  have F35 := F34.pt u35
  have h41_35 := u35.w (u34.w (u33.w h41_32))
  refine wl_p (ex_pick (q := false) h41_35 h44_35) F35.l fun a36 u36 h45_36 => ?_
  have F36 := F35.pt u36
  refine wl_p (ex_mv h45_36) F36.l fun a37 u37 h46_37 => ?_
  have F37 := F36.pt u37
  have h2_37 := u37.w (u36.w (u35.w (u34.w (u33.w h2_32))))
  refine wl_g (yl (e := 46) rfl h46_37) (ex_fb 6 h2_37) F37.l fun a38 u38 h47_38 => ?_
  have F38 := F37.pt u38
  refine wl_g (yl (e := 46) rfl (u38.w h46_37)) (ex_le (v := (.int .i64 ty)) h47_38 (Bm_1.cell 6)) F38.l fun a39 u39 h48_39 => ?_
  have F39 := F38.pt u39
  refine wl_g (yl (e := 46) rfl (u39.w (u38.w h46_37))) (ex_bin (vy := (.int .i64 2)) (v := (.bool false)) h48_39 rfl ((bo_gtri _ _ _).trans (by rw [decide_eq_false (by omega)]))) F39.l fun a40 u40 h49_40 => ?_
  have F40 := F39.pt u40
  have h46_40 := u40.w (u39.w (u38.w h46_37))
  refine wl_p (ex_pick (q := false) h46_40 h49_40) F40.l fun a41 u41 h50_41 => ?_
  have F41 := F40.pt u41
  refine wl_p (ex_mv h50_41) F41.l fun a42 u42 h51_42 => ?_
  have F42 := F41.pt u42
  have h2_42 := u42.w (u41.w (u40.w (u39.w (u38.w h2_37))))
  refine wl_g (yl (e := 51) rfl h51_42) (ex_fb 0 h2_42) F42.l fun a43 u43 h52_43 => ?_
  have F43 := F42.pt u43
  refine wl_g (yl (e := 51) rfl (u43.w h51_42)) (ex_le (v := (.float .f64 (fn T))) h52_43 (Bm_1.cell 0)) F43.l fun a44 u44 h53_44 => ?_
  have F44 := F43.pt u44
  refine wl_gc (yl (e := 51) rfl (u44.w (u43.w h51_42))) (args := #[(.float .f64 (fn T))]) (R := fun v w' => v = (.bool true) ∧ (w1 = w')) (ex_cl (fun _ _ => by kernel_rfl) (arg1 h53_44)) ((plain_fn hT0 _).mono fun _ _ h => ⟨_, h.1, rfl, h.2⟩) F44.l ?_
  rintro v w' ⟨rfl, rfl⟩
  intro a45 u45 h54_45
  have F45 := F44.pt u45
  have h51_45 := u45.w (u44.w (u43.w h51_42))
  refine wl_g (yl (e := 51) rfl h51_45) (ex_un (vx := (.bool true)) (v := (.bool false)) h54_45 rfl) F45.l fun a46 u46 h55_46 => ?_
  have F46 := F45.pt u46
  refine wl_p (ex_pick (q := false) (u46.w h51_45) h55_46) F46.l fun a47 u47 h56_47 => ?_
  have F47 := F46.pt u47
  refine wl_p (ex_mv h56_47) F47.l fun a48 u48 h57_48 => ?_
  have F48 := F47.pt u48
  have h2_48 := u48.w (u47.w (u46.w (u45.w (u44.w (u43.w h2_42)))))
  refine wl_g (yl (e := 57) rfl h57_48) (ex_fb 8 h2_48) F48.l fun a49 u49 h58_49 => ?_
  have F49 := F48.pt u49
  refine wl_g (yl (e := 57) rfl (u49.w h57_48)) (ex_le (v := (.float .f64 (fb st))) h58_49 (Bm_1.cell 8)) F49.l fun a50 u50 h59_50 => ?_
  have F50 := F49.pt u50
  refine wl_gc (yl (e := 57) rfl (u50.w (u49.w h57_48))) (args := #[(.float .f64 (fb st))]) (R := fun v w' => v = (.bool true) ∧ (w1 = w')) (ex_cl (fun _ _ => by kernel_rfl) (arg1 h59_50)) ((plain_any st (by omega) _).mono fun _ _ h => ⟨_, h.1, rfl, h.2⟩) F50.l ?_
  rintro v w' ⟨rfl, rfl⟩
  intro a51 u51 h60_51
  have F51 := F50.pt u51
  have h57_51 := u51.w (u50.w (u49.w h57_48))
  refine wl_g (yl (e := 57) rfl h57_51) (ex_un (vx := (.bool true)) (v := (.bool false)) h60_51 rfl) F51.l fun a52 u52 h61_52 => ?_
  have F52 := F51.pt u52
  refine wl_p (ex_pick (q := false) (u52.w h57_51) h61_52) F52.l fun a53 u53 h62_53 => ?_
  have F53 := F52.pt u53
  change Code.wp _ _ _ _ _
  refine wp_cond_false h62_53 ?_
  refine wp_skip ?_
  change Code.wp _ _ _ _ _
  refine wp_seq ?_
  refine rg_list ?_
  have h2_53 := u53.w (u52.w (u51.w (u50.w (u49.w h2_48))))
  refine wl_p (ex_fb 13 h2_53) F53.l fun a54 u54 h64_54 => ?_
  have F54 := F53.pt u54
  refine wl_p (ex_le (v := (.int .i64 win)) h64_54 (Bm_1.cell 13)) F54.l fun a55 u55 h65_55 => ?_
  have F55 := F54.pt u55
  refine wl_p (ex_conv (vx := (.int .i64 win)) (v := (.int .u64 win)) h65_55 (cv_iu _ (by omega) _)) F55.l fun a56 u56 h66_56 => ?_
  have F56 := F55.pt u56
  have h2_56 := u56.w (u55.w (u54.w h2_53))
  refine wl_p (ex_fb 2 h2_56) F56.l fun a57 u57 h67_57 => ?_
  have F57 := F56.pt u57
  refine wl_p (ex_le (v := sv) h67_57 (Bm_1.cell 2)) F57.l fun a58 u58 h68_58 => ?_
  have F58 := F57.pt u58
  refine wl_p (ex_bi (w' := w1) (args := #[sv]) (v := (.int .i64 segs.length)) (arg1 h68_58) (hsv.len _)) F58.l fun a59 u59 h69_59 => ?_
  have F59 := F58.pt u59
  refine wl_p (ex_bi (w' := w1) (args := #[(.int .i64 1), (.int .i64 segs.length)]) (v := (.int .i64 cap)) (arg2 rfl h69_59) ((max_run _ _).trans (by rw [← hcap]))) F59.l fun a60 u60 h70_60 => ?_
  have F60 := F59.pt u60
  refine wl_p (ex_conv (vx := (.int .i64 cap)) (v := (.int .u64 cap)) h70_60 (cv_iu _ (by omega) _)) F60.l fun a61 u61 h71_61 => ?_
  have F61 := F60.pt u61
  have h66_61 := u61.w (u60.w (u59.w (u58.w (u57.w h66_56))))
  refine wl_cl (args := #[(.int .u64 win), (.int .u64 cap)]) (R := fun v w' => ∃ b g, v = .tuple #[pt b, .nilIface] ∧ Blk w' b 70 #[(.float .f64 0), (.int .u64 0), (.slice (some ⟨g, 0, none⟩) cap cap), (.string { data := #[] }), (.bool false), (.bool false), (.int .u64 0), (.int .u64 0), (.float .f64 0), (.bool false), (.bool false), (.int .i64 0), (.int .u64 win), (.int .u64 cap), (.int .u64 0), (.int .u64 0), (.int .u64 0), (.slice none 0 0), (.int .i64 0), (.int .i8 0), (.int .u8 3), (.pointer none), (.pointer none)] ∧ Blk w' g 74 (Array.replicate cap (.pointer none)) ∧ g ≠ b ∧ w1.grownBy w' none ∧ w1.heap.size ≤ b ∧ w1.heap.size ≤ g) (ex_cl (fun _ _ => by kernel_rfl) (arg2 h66_61 h71_61)) ((newpl (by omega) (by omega)).mono fun _ _ ⟨b, g, h⟩ => ⟨_, h.1, b, g, rfl, h.2⟩) F61.l ?_
  rintro v w2 ⟨gp, gg, rfl, Bp_2, Bg_2, hgp, G2, hlp, hlg⟩
  have ne_m_p : gm ≠ gp := by have := Bm_1.lt; omega
  have ne_m_g : gm ≠ gg := by have := Bm_1.lt; omega
  have lo_p : w0.heap.size ≤ gp := by have := Kp1.size; omega
  have lo_g : w0.heap.size ≤ gg := by have := Kp1.size; omega
  have Bm_2 := Bm_1.gn G2
  have Kp2 := Kp1.new G2
  intro a62 u62 h72_62
  have F62 := F61.pt u62
  clear hlp hlg
  refine wl_p (ex_mv h72_62) F62.l fun a63 u63 h63_63 => ?_
  have F63 := F62.pt u63
  refine wl_p (ex_ext (vs := #[(.pointer (some ⟨gp, 0, none⟩)), .nilIface]) (v := (.pointer (some ⟨gp, 0, none⟩))) h63_63 rfl) F63.l fun a64 u64 h73_64 => ?_
  have F64 := F63.pt u64
  refine wl_p (ex_ext (vs := #[(.pointer (some ⟨gp, 0, none⟩)), .nilIface]) (v := .nilIface) (u64.w h63_63) rfl) F64.l fun a65 u65 h74_65 => ?_
  have F65 := F64.pt u65
  refine wl_p (ex_as (u65.w h73_64)) F65.l fun a66 u66 h6_66 => ?_
  have F66 := F65.pt u66
  refine wl_p (ex_as (u66.w h74_65)) F66.l fun a67 u67 h7_67 => ?_
  have F67 := F66.pt u67
  change Code.wp _ _ _ _ _
  refine wp_seq ?_
  refine wp_seq ?_
  refine rg_list ?_
  refine wl_p (ex_mv h7_67) F67.l fun a68 u68 h75_68 => ?_
  have F68 := F67.pt u68
  refine wl_p (ex_bin (vy := .nilIface) (v := (.bool false)) h75_68 rfl (by kernel_rfl)) F68.l fun a69 u69 h76_69 => ?_
  have F69 := F68.pt u69
  change Code.wp _ _ _ _ _
  refine wp_cond_false h76_69 ?_
  refine wp_skip ?_
  change Code.wp _ _ _ _ _
  refine wp_seq ?_
  refine rg_list ?_
  have h6_69 := u69.w (u68.w (u67.w h6_66))
  refine wl_p (ex_mv h6_69) F69.l fun a70 u70 h77_70 => ?_
  have F70 := F69.pt u70
  have h2_70 := u70.w (u69.w (u68.w (u67.w (u66.w (u65.w (u64.w (u63.w (u62.w (u61.w (u60.w (u59.w (u58.w (u57.w h2_56)))))))))))))
  refine wl_p (ex_fb 1 h2_70) F70.l fun a71 u71 h78_71 => ?_
  have F71 := F70.pt u71
  refine wl_p (ex_le (v := (.int .u64 seq)) h78_71 (Bm_2.cell 1)) F71.l fun a72 u72 h79_72 => ?_
  have F72 := F71.pt u72
  refine wl_p (ex_nil (u72.w (u71.w h77_70))) F72.l fun a73 u73 h80_73 => ?_
  have F73 := F72.pt u73
  refine wl_p (ex_fb 1 h80_73) F73.l fun a74 u74 h81_74 => ?_
  have F74 := F73.pt u74
  obtain ⟨w3, hr3, Bp_3, G3⟩ := st_run (T := 25) (o := 1) (v := (.int .u64 seq)) (cs' := #[(.float .f64 0), (.int .u64 seq), (.slice (some ⟨gg, 0, none⟩) cap cap), (.string { data := #[] }), (.bool false), (.bool false), (.int .u64 0), (.int .u64 0), (.float .f64 0), (.bool false), (.bool false), (.int .i64 0), (.int .u64 win), (.int .u64 cap), (.int .u64 0), (.int .u64 0), (.int .u64 0), (.slice none 0 0), (.int .i64 0), (.int .i8 0), (.int .u8 3), (.pointer none), (.pointer none)]) (fun _ => by kernel_rfl) Bp_2 rfl (by simp) rfl
  have Bm_3 := Bm_2.gk G3 ne_m_p
  have Bg_3 := Bg_2.gk G3 hgp
  have Kp3 := Kp2.set G3 (Or.inr lo_p)
  refine wl_n (ex_st h81_74 (u74.w (u73.w h79_72)) hr3) ?_
  change Code.wp _ _ _ _ _
  refine wp_seq ?_
  refine rg_list ?_
  have h6_74 := u74.w (u73.w (u72.w (u71.w (u70.w h6_69))))
  refine wl_p (ex_mv h6_74) F74.l fun a75 u75 h82_75 => ?_
  have F75 := F74.pt u75
  have h2_75 := u75.w (u74.w (u73.w (u72.w (u71.w h2_70))))
  refine wl_p (ex_fb 0 h2_75) F75.l fun a76 u76 h83_76 => ?_
  have F76 := F75.pt u76
  refine wl_p (ex_le (v := (.float .f64 (fn T))) h83_76 (Bm_3.cell 0)) F76.l fun a77 u77 h84_77 => ?_
  have F77 := F76.pt u77
  refine wl_p (ex_nil (u77.w (u76.w h82_75))) F77.l fun a78 u78 h85_78 => ?_
  have F78 := F77.pt u78
  refine wl_p (ex_fb 0 h85_78) F78.l fun a79 u79 h86_79 => ?_
  have F79 := F78.pt u79
  obtain ⟨w4, hr4, Bp_4, G4⟩ := st_run (T := 24) (o := 0) (v := (.float .f64 (fn T))) (cs' := #[(.float .f64 (fn T)), (.int .u64 seq), (.slice (some ⟨gg, 0, none⟩) cap cap), (.string { data := #[] }), (.bool false), (.bool false), (.int .u64 0), (.int .u64 0), (.float .f64 0), (.bool false), (.bool false), (.int .i64 0), (.int .u64 win), (.int .u64 cap), (.int .u64 0), (.int .u64 0), (.int .u64 0), (.slice none 0 0), (.int .i64 0), (.int .i8 0), (.int .u8 3), (.pointer none), (.pointer none)]) (fun _ => by kernel_rfl) Bp_3 rfl (by simp) rfl
  have Bm_4 := Bm_3.gk G4 ne_m_p
  have Bg_4 := Bg_3.gk G4 hgp
  have Kp4 := Kp3.set G4 (Or.inr lo_p)
  refine wl_n (ex_st h86_79 (u79.w (u78.w h84_77)) hr4) ?_
  change Code.wp _ _ _ _ _
  refine wp_seq ?_
  refine wp_seq ?_
  refine rg_list ?_
  have h2_79 := u79.w (u78.w (u77.w (u76.w h2_75)))
  refine wl_p (ex_fb 2 h2_79) F79.l fun a80 u80 h87_80 => ?_
  have F80 := F79.pt u80
  refine wl_p (ex_le (v := sv) h87_80 (Bm_4.cell 2)) F80.l fun a81 u81 h88_81 => ?_
  have F81 := F80.pt u81
  refine wl_p (ex_bi (w' := w4) (args := #[sv]) (v := (.int .i64 segs.length)) (arg1 h88_81) (hsv.len _)) F81.l fun a82 u82 h89_82 => ?_
  have F82 := F81.pt u82
  refine wl_p (ex_mv (v := (.int .i64 0)) rfl) F82.l fun a83 u83 h90_83 => ?_
  have F83 := F82.pt u83
  change Code.wp _ _ _ _ _
  have hz1 : (Array.replicate cap (Value.pointer none)).size = cap := by simp
  have Bi := Bp_4.to (cs' := #[(.float .f64 (fn (tmax T (segs.take 0)))), (.int .u64 seq), (.slice (some ⟨gg, 0, none⟩) cap cap), (.string { data := #[] }), (.bool false), (.bool false), (.int .u64 0), (.int .u64 0), (.float .f64 0), (.bool false), (.bool false), (.int .i64 0), (.int .u64 win), (.int .u64 cap), (.int .u64 0), (.int .u64 ((0 % cap) : Nat)), (.int .u64 (0 : Nat)), (.slice none 0 0), (.int .i64 0), (.int .i8 0), (.int .u8 3), (.pointer none), (.pointer none)]) (by simp [tmax])
  have h1_83 := u83.w (u82.w (u81.w (u80.w (u79.w (u78.w (u77.w (u76.w (u75.w (u74.w (u73.w (u72.w (u71.w (u70.w (u69.w (u68.w (u67.w (u66.w (u65.w (u64.w (u63.w (u62.w (u61.w (u60.w (u59.w (u58.w (u57.w (u56.w (u55.w (u54.w (u53.w (u52.w (u51.w (u50.w (u49.w (u48.w (u47.w (u46.w (u45.w (u44.w (u43.w (u42.w (u41.w (u40.w (u39.w (u38.w (u37.w (u36.w (u35.w (u34.w (u33.w (u32.w (u31.w (u30.w (u29.w (u28.w (u27.w (u26.w (u25.w (u24.w (u23.w (u22.w (u21.w (u20.w (u19.w (u18.w (u17.w (u16.w (u15.w (u14.w (u13.w (u12.w (u11.w (u10.w (u9.w (u8.w (u7.w (u6.w (u5.w (u4.w (u3.w (u2.w (u1.w h1_0))))))))))))))))))))))))))))))))))))))))))))))))))))))))))))))))))))))))))))))))))
  have h2_83 := u83.w (u82.w (u81.w (u80.w h2_79)))
  have h6_83 := u83.w (u82.w (u81.w (u80.w (u79.w (u78.w (u77.w (u76.w (u75.w h6_74))))))))
  refine wp_block (wp_loop (fun a w => ∃ j arr, j ≤ segs.length ∧ Fz 201 a ∧ a.tmps.getD 1 undef = (.bool wh) ∧ a.tmps.getD 2 undef = (.pointer (some ⟨gm, 0, none⟩)) ∧ a.tmps.getD 6 undef = (.pointer (some ⟨gp, 0, none⟩)) ∧ a.tmps.getD 88 undef = sv ∧ a.tmps.getD 89 undef = (.int .i64 segs.length) ∧ a.tmps.getD 90 undef = (.int .i64 (j : Nat)) ∧ Kp [] w0 w ∧ Blk w gm 36 #[(.float .f64 (fn T)), (.int .u64 seq), sv, (.string { data := #[] }), (.bool ifr), (.bool clo), (.int .i64 ty), (.int .u64 dsq), (.float .f64 (fb st)), (.bool pre), (.int .i64 ver), kv, mv, (.int .i64 win)] ∧ Blk w gp 70 #[(.float .f64 (fn (tmax T (segs.take j)))), (.int .u64 seq), (.slice (some ⟨gg, 0, none⟩) cap cap), (.string { data := #[] }), (.bool false), (.bool false), (.int .u64 0), (.int .u64 0), (.float .f64 0), (.bool false), (.bool false), (.int .i64 0), (.int .u64 win), (.int .u64 cap), (.int .u64 0), (.int .u64 ((j % cap) : Nat)), (.int .u64 (j : Nat)), (.slice none 0 0), (.int .i64 0), (.int .i8 0), (.int .u8 3), (.pointer none), (.pointer none)] ∧ Blk w gg 74 arr ∧ arr.size = cap ∧ SegsAt w w0.heap.size w.heap.size seq segs j arr) (fun a _ => segs.length - (intOf (a.tmps.getD 90 undef)).toNat) ⟨0, _, by omega, F83, h1_83, h2_83, h6_83, (u83.w (u82.w h88_81)), (u83.w h89_82), h90_83, Kp4, Bm_4, Bi, Bg_4, hz1, SegsAt.zero⟩ ?_)
  clear Bi hz1
  rintro a84 w5 ⟨j, arr, hjle, F84, h1_84, h2_84, h6_84, h88_84, h89_84, h90_84, Kp5, Bm_5, Bp_5, Bg_5, hz, sg_5⟩
  rcases Nat.lt_or_ge j segs.length with hj | hj
  case inl =>
    obtain ⟨s, hs⟩ : ∃ s, s = segs[j] := ⟨_, rfl⟩
    have hsj : segs[j]? = some s := by rw [hs]; exact List.getElem?_eq_getElem hj
    obtain ⟨ad, kx, mx, hix, hld, hkx, hmx⟩ := hsv.elem hj
    rw [← hs] at hld hkx hmx
    have hsm : s ∈ segs := by rw [hs]; exact List.getElem_mem hj
    have hej : s.e < 4000 := hes s hsm
    have hk1 := hkx.one
    have hm1 := hmx.one
    have h90S := h90_84
    have hjc : j < cap := by omega
    have hd : segs.length - (j + 1) < segs.length - j := by omega
    have hjm : j % cap = j := Nat.mod_eq_of_lt (by omega)
    rw [hjm] at Bp_5
    have hTj := hTs j hj
    have KpS := Kp5
    have BpS := Bp_5
    have BgS := Bg_5
    have sgS := sg_5
    have Kq_5 := Kp.refl [gp, gg] w5
    clear sg_5
    have BmS := Bm_5
    refine wp_seq ?_
    refine rg_list ?_
    refine wl_p (ex_bin (v := (.bool true)) h90_84 h89_84 ((bo_lssi _ _ _).trans (by rw [decide_eq_true (by omega)]))) F84.l fun a85 u85 h91_85 => ?_
    have F85 := F84.pt u85
    change Code.wp _ _ _ _ _
    refine wp_seq ?_
    refine wp_cond_true h91_85 ?_
    refine wp_skip ?_
    change Code.wp _ _ _ _ _
    refine wp_seq ?_
    refine wp_block ?_
    refine wp_seq ?_
    refine rg_list ?_
    refine wl_p (ex_ixg (vx := sv) (vy := (.int .i64 j)) (v := .pointer (some ad)) (u85.w h88_84) (u85.w h90_84) (hix _)) F85.l fun a86 u86 h92_86 => ?_
    have F86 := F85.pt u86
    refine wl_p (ex_lda (vx := .pointer (some ad)) (v := .agg #[(.int .u64 0), (.string s.title), (.string s.uri), (.float .f64 (fb s.e)), (.int .i64 s.li), (.int .i64 s.off), kx, mx, (.slice none 0 0), (.bool s.disc), (.string s.date)]) h92_86 (hld _ Kp5)) F86.l fun a87 u87 h93_87 => ?_
    have F87 := F86.pt u87
    obtain ⟨gx, hgx⟩ : ∃ g, w5.heap.size = g := ⟨_, rfl⟩
    have ne_m_x : gm ≠ gx := by have := Bm_5.lt; omega
    have ne_p_x : gp ≠ gx := by have := Bp_5.lt; omega
    have ne_g_x : gg ≠ gx := by have := Bg_5.lt; omega
    have ge_x : w0.heap.size ≤ gx := by have := Kp5.size; omega
    have geS_x : w5.heap.size ≤ gx := by have := Kq_5.size; omega
    obtain ⟨w6, hr6, Bx_6, G6, hs6⟩ := al_run (op := Instr.alloc 30 true (.tuple #[])) (T := 30) (cs := #[(.int .u64 0), (.string { data := #[] }), (.string { data := #[] }), (.float .f64 0), (.int .i64 0), (.int .i64 0), (.slice none 0 0), (.slice none 0 0), (.slice none 0 0), (.bool false), (.string { data := #[] })]) hgx (fun _ => by kernel_rfl)
    have Bm_6 := Bm_5.gn G6
    have Bp_6 := Bp_5.gn G6
    have Bg_6 := Bg_5.gn G6
    have Kp6 := Kp5.new G6
    have Kq_6 := Kq_5.new G6
    refine wl_p (ex_al hr6) F87.l fun a88 u88 (h9_88 : a88.tmps.getD 9 undef = (.pointer (some ⟨gx, 0, none⟩))) => ?_
    have F88 := F87.pt u88
    clear Kq_5 hgx
    obtain ⟨w7, hr7, Bx_7, G7⟩ := sta_run (T := 30) (cs := #[(.int .u64 0), (.string s.title), (.string s.uri), (.float .f64 (fb s.e)), (.int .i64 s.li), (.int .i64 s.off), kx, mx, (.slice none 0 0), (.bool s.disc), (.string s.date)]) (fun _ => by kernel_rfl) Bx_6 rfl rfl (by simp [Value.oneCell']; exact ⟨hk1, hm1⟩)
    have Bm_7 := Bm_6.gk G7 ne_m_x
    have Bp_7 := Bp_6.gk G7 ne_p_x
    have Bg_7 := Bg_6.gk G7 ne_g_x
    have Kp7 := Kp6.set G7 (Or.inr ge_x)
    have Kq_7 := Kq_6.set G7 (Or.inr (by have := geS_x; omega))
    refine wl_n (ex_st h9_88 (u88.w h93_87) hr7) ?_
    clear Kq_6
    change Code.wp _ _ _ _ _
    refine wp_seq ?_
    refine wp_seq ?_
    refine rg_list ?_
    refine wl_p (ex_fb 3 h9_88) F88.l fun a89 u89 h94_89 => ?_
    have F89 := F88.pt u89
    refine wl_p (ex_le (v := (.float .f64 (fb s.e))) h94_89 (Bx_7.cell 3)) F89.l fun a90 u90 h95_90 => ?_
    have F90 := F89.pt u90
    refine wl_cl (args := #[(.float .f64 (fb s.e))]) (R := fun v w' => v = (.bool true) ∧ (w7 = w')) (ex_cl (fun _ _ => by kernel_rfl) (arg1 h95_90)) ((plain_any _ hej _).mono fun _ _ h => ⟨_, h.1, rfl, h.2⟩) F90.l ?_
    rintro v w' ⟨rfl, rfl⟩
    intro a91 u91 h96_91
    have F91 := F90.pt u91
    refine wl_p (ex_un (vx := (.bool true)) (v := (.bool false)) h96_91 rfl) F91.l fun a92 u92 h97_92 => ?_
    have F92 := F91.pt u92
    change Code.wp _ _ _ _ _
    refine wp_cond_false h97_92 ?_
    refine wp_skip ?_
    change Code.wp _ _ _ _ _
    refine wp_seq ?_
    refine wp_seq ?_
    refine rg_list ?_
    have h9_92 := u92.w (u91.w (u90.w (u89.w h9_88)))
    refine wl_p (ex_fb 8 h9_92) F92.l fun a93 u93 h98_93 => ?_
    have F93 := F92.pt u93
    refine wl_p (ex_le (v := (.slice none 0 0)) h98_93 (Bx_7.cell 8)) F93.l fun a94 u94 h99_94 => ?_
    have F94 := F93.pt u94
    refine wl_p (ex_bi (w' := w7) (args := #[(.slice none 0 0)]) (v := (.int .i64 0)) (arg1 h99_94) (by kernel_rfl)) F94.l fun a95 u95 h100_95 => ?_
    have F95 := F94.pt u95
    refine wl_p (ex_mv (v := (.int .i64 0)) rfl) F95.l fun a96 u96 h101_96 => ?_
    have F96 := F95.pt u96
    change Code.wp _ _ _ _ _
    refine wp_block ?_
    refine wp_loop_once ?_
    refine wp_seq ?_
    refine rg_list ?_
    refine wl_p (ex_bin (v := (.bool false)) h101_96 (u96.w h100_95) (by kernel_rfl)) F96.l fun a97 u97 h102_97 => ?_
    have F97 := F96.pt u97
    change Code.wp _ _ _ _ _
    refine wp_seq ?_
    refine wp_cond_false h102_97 ?_
    refine wp_exit ?_
    try simp only [Exit.then]
    refine inBlock_exit ?_
    change Code.wp _ _ _ _ _
    refine wp_seq ?_
    refine rg_list ?_
    have h6_97 := u97.w (u96.w (u95.w (u94.w (u93.w (u92.w (u91.w (u90.w (u89.w (u88.w (u87.w (u86.w (u85.w h6_84))))))))))))
    refine wl_p (ex_mv h6_97) F97.l fun a98 u98 h136_98 => ?_
    have F98 := F97.pt u98
    have h9_98 := u98.w (u97.w (u96.w (u95.w (u94.w (u93.w h9_92)))))
    refine wl_p (ex_lda (vx := (.pointer (some ⟨gx, 0, none⟩))) (v := .agg #[(.int .u64 0), (.string s.title), (.string s.uri), (.float .f64 (fb s.e)), (.int .i64 s.li), (.int .i64 s.off), kx, mx, (.slice none 0 0), (.bool s.disc), (.string s.date)]) h9_98 (ld_agg (n := 11) (fun _ => by kernel_rfl) (fun _ => by kernel_rfl) Bx_7 rfl (fun j _ => by simp))) F98.l fun a99 u99 h137_99 => ?_
    have F99 := F98.pt u99
    refine wl_cl (args := #[(.agg #[(.int .u64 0), (.string s.title), (.string s.uri), (.float .f64 (fb s.e)), (.int .i64 s.li), (.int .i64 s.off), kx, mx, (.slice none 0 0), (.bool s.disc), (.string s.date)])]) (R := fun v w' => ∃ q kp mp, v = pt q ∧ Blk w' q 96 (segC 0 s kp mp) ∧ KeyP w' w7.heap.size kp s.key ∧ MapP w' w7.heap.size mp s.map ∧ w7.heap.size ≤ q ∧ w7.grownBy w' none) (ex_cl (fun _ _ => by kernel_rfl) (arg1 h137_99)) ((segmentTo_any (num := 0) (s := s) (hkx.gn Kp7.grown) (hmx.gn Kp7.grown)).mono fun _ _ ⟨q, kp, mp, h⟩ => ⟨_, h.1, q, kp, mp, rfl, h.2⟩) F99.l ?_
    rintro v w8 ⟨gq, kp, mp, rfl, Bq_8, kk_8, mm_8, hlq, G8⟩
    have geS_q : w5.heap.size ≤ gq := by have := Kq_7.size; omega
    have loS : w0.heap.size ≤ w7.heap.size := Kp7.size
    replace kk_8 := kk_8.lo' loS
    replace mm_8 := mm_8.lo' loS
    have Bm_8 := Bm_7.gn G8
    have Bp_8 := Bp_7.gn G8
    have Bg_8 := Bg_7.gn G8
    have Bx_8 := Bx_7.gn G8
    have Kp8 := Kp7.new G8
    have Kq_8 := Kq_7.new G8
    intro a100 u100 h138_100
    have F100 := F99.pt u100
    clear Kq_7 loS
    have hprev : ∀ i, j = i + 1 → ∃ v s kp mp, arr[i]? = some (pt v) ∧ Blk w8 v 96 (segC (seq + i) s kp mp) ∧ v ≠ gq := fun i hi => by
      obtain ⟨v, kp', mp', e1, e2, e3, e4, e5, e6⟩ := sgS i segs[i] (by omega) (List.getElem?_eq_getElem (by omega))
      exact ⟨v, _, kp', mp', e1, e3.kp Kq_8 (by simp [e3.ne_ BpS (by decide), e3.ne_ BgS (by decide)]), by have := e3.lt; omega⟩
    have happ : Calls Tryz.prog 15 #[(.pointer (some ⟨gp, 0, none⟩)), (.pointer (some ⟨gq, 0, none⟩))] w8 fun e w' => e = .returned .nilIface ∧ Blk w' gp 70 #[(.float .f64 (fn (max (tmax T (segs.take j)) ((s.e + 7) / 8)))), (.int .u64 seq), (.slice (some ⟨gg, 0, none⟩) cap cap), (.string { data := #[] }), (.bool false), (.bool false), (.int .u64 0), (.int .u64 0), (.float .f64 0), (.bool false), (.bool false), (.int .i64 0), (.int .u64 win), (.int .u64 cap), (.int .u64 0), (.int .u64 (((j + 1) % cap) : Nat)), (.int .u64 ((j + 1) : Nat)), (.slice none 0 0), (.int .i64 0), (.int .i8 0), (.int .u8 3), (.pointer none), (.pointer none)] ∧ Blk w' gg 74 (arr.setIfInBounds j (pt gq)) ∧ Blk w' gq 96 (segC (seq + j) s kp mp) ∧ Kp [gp, gg, gq] w8 w' := app_any (t := j) (T := tmax T (segs.take j)) (e := s.e) (seq := seq) (cap := cap) (arr := arr) Bp_8 Bg_8 Bq_8 (by omega) (by omega) (by omega) hTj hej (by omega) hprev
    refine wl_cl (args := #[(.pointer (some ⟨gp, 0, none⟩)), (.pointer (some ⟨gq, 0, none⟩))]) (R := fun v w' => v = .nilIface ∧ Blk w' gp 70 #[(.float .f64 (fn (max (tmax T (segs.take j)) ((s.e + 7) / 8)))), (.int .u64 seq), (.slice (some ⟨gg, 0, none⟩) cap cap), (.string { data := #[] }), (.bool false), (.bool false), (.int .u64 0), (.int .u64 0), (.float .f64 0), (.bool false), (.bool false), (.int .i64 0), (.int .u64 win), (.int .u64 cap), (.int .u64 0), (.int .u64 (((j + 1) % cap) : Nat)), (.int .u64 ((j + 1) : Nat)), (.slice none 0 0), (.int .i64 0), (.int .i8 0), (.int .u8 3), (.pointer none), (.pointer none)] ∧ Blk w' gg 74 (arr.setIfInBounds j (pt gq)) ∧ Blk w' gq 96 (segC (seq + j) s kp mp) ∧ Kp [gp, gg, gq] w8 w') (ex_cl (fun _ _ => by kernel_rfl) (arg2 (u100.w (u99.w h136_98)) h138_100)) (happ.mono fun _ _ h => ⟨_, h.1, rfl, h.2⟩) F100.l ?_
    clear happ
    rintro v w9 ⟨rfl, Bp_9, Bg_9, Bq_9, Ka⟩
    have Kq_9 := Kq_8.trans3 Ka geS_q
    have Kp9 := KpS.trans0 Kq_9 lo_p lo_g
    have kk_9 := kk_8.kp3 Bp_8 Bg_8 Bq_8 Ka
    have mm_9 := mm_8.kp3 Bp_8 Bg_8 Bq_8 Ka
    have nmq : gm ≠ gq := Nat.ne_of_lt (Nat.lt_of_lt_of_le BmS.lt geS_q)
    have Bm_9 := Bm_8.kp Ka (by simp [ne_m_p, ne_m_g, nmq])
    clear hprev
    intro a101 u101 h139_101
    have F101 := F100.pt u101
    refine wl_p (ex_as h139_101) F101.l fun a102 u102 h12_102 => ?_
    have F102 := F101.pt u102
    change Code.wp _ _ _ _ _
    refine wp_seq ?_
    refine rg_list ?_
    refine wl_p (ex_mv h12_102) F102.l fun a103 u103 h140_103 => ?_
    have F103 := F102.pt u103
    refine wl_p (ex_bin (vy := .nilIface) (v := (.bool false)) h140_103 rfl (by kernel_rfl)) F103.l fun a104 u104 h141_104 => ?_
    have F104 := F103.pt u104
    change Code.wp _ _ _ _ _
    refine wp_cond_false h141_104 ?_
    refine wp_skip ?_
    change Code.wp _ _ _ _ _
    refine rg_list ?_
    have h90_104 := u104.w (u103.w (u102.w (u101.w (u100.w (u99.w (u98.w (u97.w (u96.w (u95.w (u94.w (u93.w (u92.w (u91.w (u90.w (u89.w (u88.w (u87.w (u86.w (u85.w h90_84)))))))))))))))))))
    refine wl_p (ex_bin (vy := (.int .i64 1)) (v := (.int .i64 (j + 1))) h90_104 rfl (bo_addi _ _ _ (by omega) (by omega))) F104.l fun a105 u105 h142_105 => ?_
    have F105 := F104.pt u105
    refine wl_p (ex_mv h142_105) F105.l fun a106 u106 h90_106 => ?_
    have F106 := F105.pt u106
    refine And.intro ?_ ?_
    · have h1_106 := u106.w (u105.w (u104.w (u103.w (u102.w (u101.w (u100.w (u99.w (u98.w (u97.w (u96.w (u95.w (u94.w (u93.w (u92.w (u91.w (u90.w (u89.w (u88.w (u87.w (u86.w (u85.w h1_84)))))))))))))))))))))
      have h2_106 := u106.w (u105.w (u104.w (u103.w (u102.w (u101.w (u100.w (u99.w (u98.w (u97.w (u96.w (u95.w (u94.w (u93.w (u92.w (u91.w (u90.w (u89.w (u88.w (u87.w (u86.w (u85.w h2_84)))))))))))))))))))))
      have h6_106 := u106.w (u105.w (u104.w (u103.w (u102.w (u101.w (u100.w (u99.w (u98.w h6_97))))))))
      have h88_106 := u106.w (u105.w (u104.w (u103.w (u102.w (u101.w (u100.w (u99.w (u98.w (u97.w (u96.w (u95.w (u94.w (u93.w (u92.w (u91.w (u90.w (u89.w (u88.w (u87.w (u86.w (u85.w h88_84)))))))))))))))))))))
      have h89_106 := u106.w (u105.w (u104.w (u103.w (u102.w (u101.w (u100.w (u99.w (u98.w (u97.w (u96.w (u95.w (u94.w (u93.w (u92.w (u91.w (u90.w (u89.w (u88.w (u87.w (u86.w (u85.w h89_84)))))))))))))))))))))
      refine ⟨j + 1, arr.setIfInBounds j (pt gq), hj, F106, h1_106, h2_106, h6_106, h88_106, h89_106, h90_106, Kp9, Bm_9, ?_, Bg_9, by simp [hz], ?_⟩
      · rw [tmax_snoc T segs j hj, ← hs]; exact Bp_9
      · exact (sgS.kp2 BpS BgS Kq_9).snoc (by rw [hz]; exact hjc) hsj Kq_9.size (Nat.le_trans KpS.size geS_q) Bq_9 kk_9 mm_9 kk_9.lt
    · rw [h90_106, h90S]; exact hd
  case inr =>
    obtain rfl : j = segs.length := by omega
    rw [List.take_length] at Bp_5
    have hsz : w5.heap.size ≤ w5.heap.size := Nat.le_refl _
    have Kl_5 := Kp.refl [gp] w5
    refine wp_seq ?_
    refine rg_list ?_
    refine wl_p (ex_bin (v := (.bool false)) h90_84 h89_84 ((bo_lssi _ _ _).trans (by rw [decide_eq_false (by omega)]))) F84.l fun a85 u85 h91_85 => ?_
    have F85 := F84.pt u85
    change Code.wp _ _ _ _ _
    refine wp_seq ?_
    refine wp_cond_false h91_85 ?_
    refine wp_exit ?_
    try simp only [Exit.then]
    refine inBlock_exit ?_
    change Code.wp _ _ _ _ _
    refine wp_seq ?_
    obtain ⟨w6, hw6⟩ : ∃ w, w = w5.drew := ⟨_, rfl⟩
    have G6 : w5.grownBy w6 none := hw6 ▸ grown_drew _
    have Bm_6 := Bm_5.gn G6
    have Bp_6 := Bp_5.gn G6
    have Bg_6 := Bg_5.gn G6
    have Kp6 := Kp5.new G6
    have sg_6 := sg_5.gn G6
    have Kl_6 := Kl_5.new G6
    refine rg_ord (S := fun w' => Blk w' gm 36 #[(.float .f64 (fn T)), (.int .u64 seq), sv, (.string { data := #[] }), (.bool ifr), (.bool clo), (.int .i64 ty), (.int .u64 dsq), (.float .f64 (fb st)), (.bool pre), (.int .i64 ver), kv, mv, (.int .i64 win)]) [0, 1, 2, 3, 4, 5, 6, 7, 8, 9, 10, 11, 12, 13, 14, 15, 16, 17] [18, 19, 20, 21, 22, 23, 24, 25, 26, 27, 28, 29, 30] ⟨rfl, by decide⟩ hmix (by kernel_rfl) (by rw [show w5.drew = w6 from hw6.symm]; exact Bm_6) ?_
    rw [show w5.drew = w6 from hw6.symm]
    clear sg_5 Kl_5
    refine mh_p (fun w hw => ex_mv (u85.w h6_84)) F85.l fun a86 u86 h143_86 => ?_
    have F86 := F85.pt u86
    refine mh_p (fun w hw => ex_mv (u86.w (u85.w h6_84))) F86.l fun a87 u87 h144_87 => ?_
    have F87 := F86.pt u87
    have h6_87 := u87.w (u86.w (u85.w h6_84))
    refine mh_p (fun w hw => ex_mv h6_87) F87.l fun a88 u88 h145_88 => ?_
    have F88 := F87.pt u88
    refine mh_p (fun w hw => ex_mv (u88.w h6_87)) F88.l fun a89 u89 h146_89 => ?_
    have F89 := F88.pt u89
    refine mh_p (fun w hw => ex_mv (u89.w (u88.w h6_87))) F89.l fun a90 u90 h147_90 => ?_
    have F90 := F89.pt u90
    have h2_90 := u90.w (u89.w (u88.w (u87.w (u86.w (u85.w h2_84)))))
    refine mh_p (fun w hw => ex_fb 3 h2_90) F90.l fun a91 u91 h148_91 => ?_
    have F91 := F90.pt u91
    refine mh_p (fun w hw => ex_le (v := (.string { data := #[] })) h148_91 (hw.cell 3)) F91.l fun a92 u92 h149_92 => ?_
    have F92 := F91.pt u92
    refine mh_p (fun w hw => ex_fb 4 (u92.w (u91.w h2_90))) F92.l fun a93 u93 h150_93 => ?_
    have F93 := F92.pt u93
    refine mh_p (fun w hw => ex_le (v := (.bool ifr)) h150_93 (hw.cell 4)) F93.l fun a94 u94 h151_94 => ?_
    have F94 := F93.pt u94
    have h2_94 := u94.w (u93.w (u92.w (u91.w h2_90)))
    refine mh_p (fun w hw => ex_fb 5 h2_94) F94.l fun a95 u95 h152_95 => ?_
    have F95 := F94.pt u95
    refine mh_p (fun w hw => ex_le (v := (.bool clo)) h152_95 (hw.cell 5)) F95.l fun a96 u96 h153_96 => ?_
    have F96 := F95.pt u96
    refine mh_p (fun w hw => ex_fb 6 (u96.w (u95.w h2_94))) F96.l fun a97 u97 h154_97 => ?_
    have F97 := F96.pt u97
    refine mh_p (fun w hw => ex_le (v := (.int .i64 ty)) h154_97 (hw.cell 6)) F97.l fun a98 u98 h155_98 => ?_
    have F98 := F97.pt u98
    refine mh_p (fun w hw => ex_conv (vx := (.int .i64 ty)) (v := (.int .u64 ty)) h155_98 (cv_ity _ (by omega) _)) F98.l fun a99 u99 h156_99 => ?_
    have F99 := F98.pt u99
    have h2_99 := u99.w (u98.w (u97.w (u96.w (u95.w h2_94))))
    refine mh_p (fun w hw => ex_fb 7 h2_99) F99.l fun a100 u100 h157_100 => ?_
    have F100 := F99.pt u100
    refine mh_p (fun w hw => ex_le (v := (.int .u64 dsq)) h157_100 (hw.cell 7)) F100.l fun a101 u101 h158_101 => ?_
    have F101 := F100.pt u101
    have h143_101 := u101.w (u100.w (u99.w (u98.w (u97.w (u96.w (u95.w (u94.w (u93.w (u92.w (u91.w (u90.w (u89.w (u88.w (u87.w h143_86))))))))))))))
    refine mh_p (fun w hw => ex_nil h143_101) F101.l fun a102 u102 h159_102 => ?_
    have F102 := F101.pt u102
    refine mh_p (fun w hw => ex_fb 3 h159_102) F102.l fun a103 u103 h160_103 => ?_
    have F103 := F102.pt u103
    obtain ⟨w7, hr7, Bp_7, G7⟩ := st_run (T := 9) (o := 3) (v := (.string { data := #[] })) (cs' := #[(.float .f64 (fn (tmax T segs))), (.int .u64 seq), (.slice (some ⟨gg, 0, none⟩) cap cap), (.string { data := #[] }), (.bool false), (.bool false), (.int .u64 0), (.int .u64 0), (.float .f64 0), (.bool false), (.bool false), (.int .i64 0), (.int .u64 win), (.int .u64 cap), (.int .u64 0), (.int .u64 ((segs.length % cap) : Nat)), (.int .u64 (segs.length : Nat)), (.slice none 0 0), (.int .i64 0), (.int .i8 0), (.int .u8 3), (.pointer none), (.pointer none)]) (fun _ => by kernel_rfl) Bp_6 rfl (by simp) rfl
    have Bm_7 := Bm_6.gk G7 ne_m_p
    have Bg_7 := Bg_6.gk G7 hgp
    have Kp7 := Kp6.set G7 (Or.inr lo_p)
    have sg_7 := sg_6.gs Bp_6 G7
    have Kl_7 := Kl_6.set G7 (Or.inl (by simp))
    have h149_103 := u103.w (u102.w (u101.w (u100.w (u99.w (u98.w (u97.w (u96.w (u95.w (u94.w (u93.w h149_92))))))))))
    refine mt_n (ex_st h160_103 h149_103 hr7) (Bm_7) ?_
    clear sg_6 Kl_6
    have h144_103 := u103.w (u102.w (u101.w (u100.w (u99.w (u98.w (u97.w (u96.w (u95.w (u94.w (u93.w (u92.w (u91.w (u90.w (u89.w (u88.w h144_87)))))))))))))))
    refine mt_p (ex_nil h144_103) (Bm_7) F103.l fun a104 u104 h161_104 => ?_
    have F104 := F103.pt u104
    refine mt_p (ex_fb 4 h161_104) (Bm_7) F104.l fun a105 u105 h162_105 => ?_
    have F105 := F104.pt u105
    obtain ⟨w8, hr8, Bp_8, G8⟩ := st_run (T := 4) (o := 4) (v := (.bool ifr)) (cs' := #[(.float .f64 (fn (tmax T segs))), (.int .u64 seq), (.slice (some ⟨gg, 0, none⟩) cap cap), (.string { data := #[] }), (.bool ifr), (.bool false), (.int .u64 0), (.int .u64 0), (.float .f64 0), (.bool false), (.bool false), (.int .i64 0), (.int .u64 win), (.int .u64 cap), (.int .u64 0), (.int .u64 ((segs.length % cap) : Nat)), (.int .u64 (segs.length : Nat)), (.slice none 0 0), (.int .i64 0), (.int .i8 0), (.int .u8 3), (.pointer none), (.pointer none)]) (fun _ => by kernel_rfl) Bp_7 rfl (by simp) rfl
    have Bm_8 := Bm_7.gk G8 ne_m_p
    have Bg_8 := Bg_7.gk G8 hgp
    have Kp8 := Kp7.set G8 (Or.inr lo_p)
    have sg_8 := sg_7.gs Bp_7 G8
    have Kl_8 := Kl_7.set G8 (Or.inl (by simp))
    have h151_105 := u105.w (u104.w (u103.w (u102.w (u101.w (u100.w (u99.w (u98.w (u97.w (u96.w (u95.w h151_94))))))))))
    refine mt_n (ex_st h162_105 h151_105 hr8) (Bm_8) ?_
    clear sg_7 Kl_7
    have h145_105 := u105.w (u104.w (u103.w (u102.w (u101.w (u100.w (u99.w (u98.w (u97.w (u96.w (u95.w (u94.w (u93.w (u92.w (u91.w (u90.w (u89.w h145_88))))))))))))))))
    refine mt_p (ex_nil h145_105) (Bm_8) F105.l fun a106 u106 h163_106 => ?_
    have F106 := F105.pt u106
    refine mt_p (ex_fb 5 h163_106) (Bm_8) F106.l fun a107 u107 h164_107 => ?_
    have F107 := F106.pt u107
    obtain ⟨w9, hr9, Bp_9, G9⟩ := st_run (T := 4) (o := 5) (v := (.bool clo)) (cs' := #[(.float .f64 (fn (tmax T segs))), (.int .u64 seq), (.slice (some ⟨gg, 0, none⟩) cap cap), (.string { data := #[] }), (.bool ifr), (.bool clo), (.int .u64 0), (.int .u64 0), (.float .f64 0), (.bool false), (.bool false), (.int .i64 0), (.int .u64 win), (.int .u64 cap), (.int .u64 0), (.int .u64 ((segs.length % cap) : Nat)), (.int .u64 (segs.length : Nat)), (.slice none 0 0), (.int .i64 0), (.int .i8 0), (.int .u8 3), (.pointer none), (.pointer none)]) (fun _ => by kernel_rfl) Bp_8 rfl (by simp) rfl
    have Bm_9 := Bm_8.gk G9 ne_m_p
    have Bg_9 := Bg_8.gk G9 hgp
    have Kp9 := Kp8.set G9 (Or.inr lo_p)
    have sg_9 := sg_8.gs Bp_8 G9
    have Kl_9 := Kl_8.set G9 (Or.inl (by simp))
    have h153_107 := u107.w (u106.w (u105.w (u104.w (u103.w (u102.w (u101.w (u100.w (u99.w (u98.w (u97.w h153_96))))))))))
    refine mt_n (ex_st h164_107 h153_107 hr9) (Bm_9) ?_
    clear sg_8 Kl_8
    have h146_107 := u107.w (u106.w (u105.w (u104.w (u103.w (u102.w (u101.w (u100.w (u99.w (u98.w (u97.w (u96.w (u95.w (u94.w (u93.w (u92.w (u91.w (u90.w h146_89)))))))))))))))))
    refine mt_p (ex_nil h146_107) (Bm_9) F107.l fun a108 u108 h165_108 => ?_
    have F108 := F107.pt u108
    refine mt_p (ex_fb 6 h165_108) (Bm_9) F108.l fun a109 u109 h166_109 => ?_
    have F109 := F108.pt u109
    obtain ⟨w10, hr10, Bp_10, G10⟩ := st_run (T := 62) (o := 6) (v := (.int .u64 ty)) (cs' := #[(.float .f64 (fn (tmax T segs))), (.int .u64 seq), (.slice (some ⟨gg, 0, none⟩) cap cap), (.string { data := #[] }), (.bool ifr), (.bool clo), (.int .u64 ty), (.int .u64 0), (.float .f64 0), (.bool false), (.bool false), (.int .i64 0), (.int .u64 win), (.int .u64 cap), (.int .u64 0), (.int .u64 ((segs.length % cap) : Nat)), (.int .u64 (segs.length : Nat)), (.slice none 0 0), (.int .i64 0), (.int .i8 0), (.int .u8 3), (.pointer none), (.pointer none)]) (fun _ => by kernel_rfl) Bp_9 rfl (by simp) rfl
    have Bm_10 := Bm_9.gk G10 ne_m_p
    have Bg_10 := Bg_9.gk G10 hgp
    have Kp10 := Kp9.set G10 (Or.inr lo_p)
    have sg_10 := sg_9.gs Bp_9 G10
    have Kl_10 := Kl_9.set G10 (Or.inl (by simp))
    have h156_109 := u109.w (u108.w (u107.w (u106.w (u105.w (u104.w (u103.w (u102.w (u101.w (u100.w h156_99)))))))))
    refine mt_n (ex_st h166_109 h156_109 hr10) (Bm_10) ?_
    clear sg_9 Kl_9
    have h147_109 := u109.w (u108.w (u107.w (u106.w (u105.w (u104.w (u103.w (u102.w (u101.w (u100.w (u99.w (u98.w (u97.w (u96.w (u95.w (u94.w (u93.w (u92.w (u91.w h147_90))))))))))))))))))
    refine mt_p (ex_nil h147_109) (Bm_10) F109.l fun a110 u110 h167_110 => ?_
    have F110 := F109.pt u110
    refine mt_p (ex_fb 7 h167_110) (Bm_10) F110.l fun a111 u111 h168_111 => ?_
    have F111 := F110.pt u111
    obtain ⟨w11, hr11, Bp_11, G11⟩ := st_run (T := 25) (o := 7) (v := (.int .u64 dsq)) (cs' := #[(.float .f64 (fn (tmax T segs))), (.int .u64 seq), (.slice (some ⟨gg, 0, none⟩) cap cap), (.string { data := #[] }), (.bool ifr), (.bool clo), (.int .u64 ty), (.int .u64 dsq), (.float .f64 0), (.bool false), (.bool false), (.int .i64 0), (.int .u64 win), (.int .u64 cap), (.int .u64 0), (.int .u64 ((segs.length % cap) : Nat)), (.int .u64 (segs.length : Nat)), (.slice none 0 0), (.int .i64 0), (.int .i8 0), (.int .u8 3), (.pointer none), (.pointer none)]) (fun _ => by kernel_rfl) Bp_10 rfl (by simp) rfl
    have Bm_11 := Bm_10.gk G11 ne_m_p
    have Bg_11 := Bg_10.gk G11 hgp
    have Kp11 := Kp10.set G11 (Or.inr lo_p)
    have sg_11 := sg_10.gs Bp_10 G11
    have Kl_11 := Kl_10.set G11 (Or.inl (by simp))
    have h158_111 := u111.w (u110.w (u109.w (u108.w (u107.w (u106.w (u105.w (u104.w (u103.w (u102.w h158_101)))))))))
    refine mt_n (ex_st h168_111 h158_111 hr11) (Bm_11) ?_
    clear sg_10 Kl_10
    change Code.wp _ _ _ _ _
    refine wp_seq ?_
    obtain ⟨w12, hw12⟩ : ∃ w, w = w11.drew := ⟨_, rfl⟩
    have G12 : w11.grownBy w12 none := hw12 ▸ grown_drew _
    have Bm_12 := Bm_11.gn G12
    have Bp_12 := Bp_11.gn G12
    have Bg_12 := Bg_11.gn G12
    have Kp12 := Kp11.new G12
    have sg_12 := sg_11.gn G12
    have Kl_12 := Kl_11.new G12
    refine rg_ord (S := fun w' => Blk w' gm 36 #[(.float .f64 (fn T)), (.int .u64 seq), sv, (.string { data := #[] }), (.bool ifr), (.bool clo), (.int .i64 ty), (.int .u64 dsq), (.float .f64 (fb st)), (.bool pre), (.int .i64 ver), kv, mv, (.int .i64 win)]) [0, 1, 2, 3, 4, 5, 6, 7, 8, 9, 11, 12] [10, 13, 14, 15, 16, 17, 18, 19, 20, 21, 22, 23, 24, 25] ⟨rfl, by decide⟩ hmix (by kernel_rfl) (by rw [show w11.drew = w12 from hw12.symm]; exact Bm_12) ?_
    rw [show w11.drew = w12 from hw12.symm]
    clear sg_11 Kl_11
    have h6_111 := u111.w (u110.w (u109.w (u108.w (u107.w (u106.w (u105.w (u104.w (u103.w (u102.w (u101.w (u100.w (u99.w (u98.w (u97.w (u96.w (u95.w (u94.w (u93.w (u92.w (u91.w (u90.w (u89.w (u88.w h6_87)))))))))))))))))))))))
    refine mh_p (fun w hw => ex_mv h6_111) F111.l fun a112 u112 h169_112 => ?_
    have F112 := F111.pt u112
    refine mh_p (fun w hw => ex_mv (u112.w h6_111)) F112.l fun a113 u113 h170_113 => ?_
    have F113 := F112.pt u113
    refine mh_p (fun w hw => ex_mv (u113.w (u112.w h6_111))) F113.l fun a114 u114 h171_114 => ?_
    have F114 := F113.pt u114
    have h6_114 := u114.w (u113.w (u112.w h6_111))
    refine mh_p (fun w hw => ex_mv h6_114) F114.l fun a115 u115 h172_115 => ?_
    have F115 := F114.pt u115
    have h2_115 := u115.w (u114.w (u113.w (u112.w (u111.w (u110.w (u109.w (u108.w (u107.w (u106.w (u105.w (u104.w (u103.w (u102.w (u101.w (u100.w h2_99)))))))))))))))
    refine mh_p (fun w hw => ex_fb 8 h2_115) F115.l fun a116 u116 h173_116 => ?_
    have F116 := F115.pt u116
    refine mh_p (fun w hw => ex_le (v := (.float .f64 (fb st))) h173_116 (hw.cell 8)) F116.l fun a117 u117 h174_117 => ?_
    have F117 := F116.pt u117
    refine mh_p (fun w hw => ex_fb 9 (u117.w (u116.w h2_115))) F117.l fun a118 u118 h175_118 => ?_
    have F118 := F117.pt u118
    refine mh_p (fun w hw => ex_le (v := (.bool pre)) h175_118 (hw.cell 9)) F118.l fun a119 u119 h176_119 => ?_
    have F119 := F118.pt u119
    have h2_119 := u119.w (u118.w (u117.w (u116.w h2_115)))
    refine mh_p (fun w hw => ex_fb 11 h2_119) F119.l fun a120 u120 h177_120 => ?_
    have F120 := F119.pt u120
    refine mh_p (fun w hw => ex_le (v := kv) h177_120 (hw.cell 11)) F120.l fun a121 u121 h178_121 => ?_
    have F121 := F120.pt u121
    refine mh_p (fun w hw => ex_fb 12 (u121.w (u120.w h2_119))) F121.l fun a122 u122 h180_122 => ?_
    have F122 := F121.pt u122
    refine mh_p (fun w hw => ex_le (v := mv) h180_122 (hw.cell 12)) F122.l fun a123 u123 h181_123 => ?_
    have F123 := F122.pt u123
    refine mt_cl (args := #[kv]) (R := fun v w' => ∃ kp, v = pto kp ∧ KeyP w' w12.heap.size kp key ∧ w12.grownBy w' none) (ex_cl (fun _ _ => by kernel_rfl) (arg1 (u123.w (u122.w h178_121)))) ((keyTo_any (hks.gn Kp12.grown)).mono fun _ _ ⟨kp, h⟩ => ⟨_, h.1, kp, rfl, h.2⟩) F123.l ?_
    rintro v w13 ⟨kp, rfl, kk_13, G13⟩
    have hhi : ∀ x, kp = some x → w5.heap.size ≤ x := fun x e => by have := kk_13.ge x e; have := Kl_12.size; omega
    have Bm_13 := Bm_12.gn G13
    have Bp_13 := Bp_12.gn G13
    have Bg_13 := Bg_12.gn G13
    have Kp13 := Kp12.new G13
    have sg_13 := sg_12.gn G13
    refine ⟨Bm_13, ?_⟩
    intro a124 u124 h179_124
    have F124 := F123.pt u124
    clear sg_12
    refine mt_cl (args := #[mv]) (R := fun v w' => ∃ kp, v = pto kp ∧ MapP w' w13.heap.size kp map ∧ w13.grownBy w' none) (ex_cl (fun _ _ => by kernel_rfl) (arg1 (u124.w h181_123))) ((mapTo_any (hms.gn Kp13.grown)).mono fun _ _ ⟨kp, h⟩ => ⟨_, h.1, kp, rfl, h.2⟩) F124.l ?_
    rintro v w14 ⟨mp, rfl, mm_14, G14⟩
    have Bm_14 := Bm_13.gn G14
    have Bp_14 := Bp_13.gn G14
    have Bg_14 := Bg_13.gn G14
    have Kp14 := Kp13.new G14
    have sg_14 := sg_13.gn G14
    have kk_14 := kk_13.gn G14
    refine ⟨Bm_14, ?_⟩
    intro a125 u125 h182_125
    have F125 := F124.pt u125
    clear sg_13 kk_13
    have h169_125 := u125.w (u124.w (u123.w (u122.w (u121.w (u120.w (u119.w (u118.w (u117.w (u116.w (u115.w (u114.w (u113.w h169_112))))))))))))
    refine mt_p (ex_nil h169_125) (Bm_14) F125.l fun a126 u126 h183_126 => ?_
    have F126 := F125.pt u126
    refine mt_p (ex_fb 8 h183_126) (Bm_14) F126.l fun a127 u127 h184_127 => ?_
    have F127 := F126.pt u127
    obtain ⟨w15, hr15, Bp_15, G15⟩ := st_run (T := 24) (o := 8) (v := (.float .f64 (fb st))) (cs' := #[(.float .f64 (fn (tmax T segs))), (.int .u64 seq), (.slice (some ⟨gg, 0, none⟩) cap cap), (.string { data := #[] }), (.bool ifr), (.bool clo), (.int .u64 ty), (.int .u64 dsq), (.float .f64 (fb st)), (.bool false), (.bool false), (.int .i64 0), (.int .u64 win), (.int .u64 cap), (.int .u64 0), (.int .u64 ((segs.length % cap) : Nat)), (.int .u64 (segs.length : Nat)), (.slice none 0 0), (.int .i64 0), (.int .i8 0), (.int .u8 3), (.pointer none), (.pointer none)]) (fun _ => by kernel_rfl) Bp_14 rfl (by simp) rfl
    have Bm_15 := Bm_14.gk G15 ne_m_p
    have Bg_15 := Bg_14.gk G15 hgp
    have Kp15 := Kp14.set G15 (Or.inr lo_p)
    have sg_15 := sg_14.gs Bp_14 G15
    have kk_15 := kk_14.gs Bp_14 G15
    have mm_15 := mm_14.gs Bp_14 G15
    have h174_127 := u127.w (u126.w (u125.w (u124.w (u123.w (u122.w (u121.w (u120.w (u119.w (u118.w h174_117)))))))))
    refine mt_n (ex_st h184_127 h174_127 hr15) (Bm_15) ?_
    clear sg_14 kk_14 mm_14
    have h170_127 := u127.w (u126.w (u125.w (u124.w (u123.w (u122.w (u121.w (u120.w (u119.w (u118.w (u117.w (u116.w (u115.w (u114.w h170_113)))))))))))))
    refine mt_p (ex_nil h170_127) (Bm_15) F127.l fun a128 u128 h185_128 => ?_
    have F128 := F127.pt u128
    refine mt_p (ex_fb 9 h185_128) (Bm_15) F128.l fun a129 u129 h186_129 => ?_
    have F129 := F128.pt u129
    obtain ⟨w16, hr16, Bp_16, G16⟩ := st_run (T := 4) (o := 9) (v := (.bool pre)) (cs' := #[(.float .f64 (fn (tmax T segs))), (.int .u64 seq), (.slice (some ⟨gg, 0, none⟩) cap cap), (.string { data := #[] }), (.bool ifr), (.bool clo), (.int .u64 ty), (.int .u64 dsq), (.float .f64 (fb st)), (.bool pre), (.bool false), (.int .i64 0), (.int .u64 win), (.int .u64 cap), (.int .u64 0), (.int .u64 ((segs.length % cap) : Nat)), (.int .u64 (segs.length : Nat)), (.slice none 0 0), (.int .i64 0), (.int .i8 0), (.int .u8 3), (.pointer none), (.pointer none)]) (fun _ => by kernel_rfl) Bp_15 rfl (by simp) rfl
    have Bm_16 := Bm_15.gk G16 ne_m_p
    have Bg_16 := Bg_15.gk G16 hgp
    have Kp16 := Kp15.set G16 (Or.inr lo_p)
    have sg_16 := sg_15.gs Bp_15 G16
    have kk_16 := kk_15.gs Bp_15 G16
    have mm_16 := mm_15.gs Bp_15 G16
    have h176_129 := u129.w (u128.w (u127.w (u126.w (u125.w (u124.w (u123.w (u122.w (u121.w (u120.w h176_119)))))))))
    refine mt_n (ex_st h186_129 h176_129 hr16) (Bm_16) ?_
    clear sg_15 kk_15 mm_15
    have h171_129 := u129.w (u128.w (u127.w (u126.w (u125.w (u124.w (u123.w (u122.w (u121.w (u120.w (u119.w (u118.w (u117.w (u116.w (u115.w h171_114))))))))))))))
    refine mt_p (ex_nil h171_129) (Bm_16) F129.l fun a130 u130 h187_130 => ?_
    have F130 := F129.pt u130
    refine mt_p (ex_fb 21 h187_130) (Bm_16) F130.l fun a131 u131 h188_131 => ?_
    have F131 := F130.pt u131
    obtain ⟨w17, hr17, Bp_17, G17⟩ := st_run (T := 67) (o := 21) (v := (pto kp)) (cs' := #[(.float .f64 (fn (tmax T segs))), (.int .u64 seq), (.slice (some ⟨gg, 0, none⟩) cap cap), (.string { data := #[] }), (.bool ifr), (.bool clo), (.int .u64 ty), (.int .u64 dsq), (.float .f64 (fb st)), (.bool pre), (.bool false), (.int .i64 0), (.int .u64 win), (.int .u64 cap), (.int .u64 0), (.int .u64 ((segs.length % cap) : Nat)), (.int .u64 (segs.length : Nat)), (.slice none 0 0), (.int .i64 0), (.int .i8 0), (.int .u8 3), (pto kp), (.pointer none)]) (fun _ => by kernel_rfl) Bp_16 rfl (by simp) rfl
    have Bm_17 := Bm_16.gk G17 ne_m_p
    have Bg_17 := Bg_16.gk G17 hgp
    have Kp17 := Kp16.set G17 (Or.inr lo_p)
    have sg_17 := sg_16.gs Bp_16 G17
    have kk_17 := kk_16.gs Bp_16 G17
    have mm_17 := mm_16.gs Bp_16 G17
    have h179_131 := u131.w (u130.w (u129.w (u128.w (u127.w (u126.w (u125.w h179_124))))))
    refine mt_n (ex_st h188_131 h179_131 hr17) (Bm_17) ?_
    clear sg_16 kk_16 mm_16
    have h172_131 := u131.w (u130.w (u129.w (u128.w (u127.w (u126.w (u125.w (u124.w (u123.w (u122.w (u121.w (u120.w (u119.w (u118.w (u117.w (u116.w h172_115)))))))))))))))
    refine mt_p (ex_nil h172_131) (Bm_17) F131.l fun a132 u132 h189_132 => ?_
    have F132 := F131.pt u132
    refine mt_p (ex_fb 22 h189_132) (Bm_17) F132.l fun a133 u133 h190_133 => ?_
    have F133 := F132.pt u133
    obtain ⟨w18, hr18, Bp_18, G18⟩ := st_run (T := 68) (o := 22) (v := (pto mp)) (cs' := #[(.float .f64 (fn (tmax T segs))), (.int .u64 seq), (.slice (some ⟨gg, 0, none⟩) cap cap), (.string { data := #[] }), (.bool ifr), (.bool clo), (.int .u64 ty), (.int .u64 dsq), (.float .f64 (fb st)), (.bool pre), (.bool false), (.int .i64 0), (.int .u64 win), (.int .u64 cap), (.int .u64 0), (.int .u64 ((segs.length % cap) : Nat)), (.int .u64 (segs.length : Nat)), (.slice none 0 0), (.int .i64 0), (.int .i8 0), (.int .u8 3), (pto kp), (pto mp)]) (fun _ => by kernel_rfl) Bp_17 rfl (by simp) rfl
    have Bm_18 := Bm_17.gk G18 ne_m_p
    have Bg_18 := Bg_17.gk G18 hgp
    have Kp18 := Kp17.set G18 (Or.inr lo_p)
    have sg_18 := sg_17.gs Bp_17 G18
    have kk_18 := kk_17.gs Bp_17 G18
    have mm_18 := mm_17.gs Bp_17 G18
    have h182_133 := u133.w (u132.w (u131.w (u130.w (u129.w (u128.w (u127.w (u126.w h182_125)))))))
    refine mt_n (ex_st h190_133 h182_133 hr18) (Bm_18) ?_
    clear sg_17 kk_17 mm_17
    change Code.wp _ _ _ _ _
    refine wp_seq ?_
    refine rg_list ?_
    have h6_133 := u133.w (u132.w (u131.w (u130.w (u129.w (u128.w (u127.w (u126.w (u125.w (u124.w (u123.w (u122.w (u121.w (u120.w (u119.w (u118.w (u117.w (u116.w (u115.w h6_114))))))))))))))))))
    refine wl_p (ex_mv h6_133) F133.l fun a134 u134 h191_134 => ?_
    have F134 := F133.pt u134
    have h1_134 := u134.w (u133.w (u132.w (u131.w (u130.w (u129.w (u128.w (u127.w (u126.w (u125.w (u124.w (u123.w (u122.w (u121.w (u120.w (u119.w (u118.w (u117.w (u116.w (u115.w (u114.w (u113.w (u112.w (u111.w (u110.w (u109.w (u108.w (u107.w (u106.w (u105.w (u104.w (u103.w (u102.w (u101.w (u100.w (u99.w (u98.w (u97.w (u96.w (u95.w (u94.w (u93.w (u92.w (u91.w (u90.w (u89.w (u88.w (u87.w (u86.w (u85.w h1_84)))))))))))))))))))))))))))))))))))))))))))))))))
    refine wl_p (ex_mv h1_134) F134.l fun a135 u135 h192_135 => ?_
    have F135 := F134.pt u135
    refine wl_cl (args := #[(.pointer (some ⟨gp, 0, none⟩)), (.bool wh)]) (R := fun v w' => v = (.tuple #[]) ∧ (Blk w' gp 70 #[(.float .f64 (fn (tmax T segs))), (.int .u64 seq), (.slice (some ⟨gg, 0, none⟩) cap cap), (.string { data := #[] }), (.bool ifr), (.bool clo), (.int .u64 ty), (.int .u64 dsq), (.float .f64 (fb st)), (.bool pre), (.bool wh), (.int .i64 0), (.int .u64 win), (.int .u64 cap), (.int .u64 0), (.int .u64 ((segs.length % cap) : Nat)), (.int .u64 (segs.length : Nat)), (.slice none 0 0), (.int .i64 0), (.int .i8 0), (.int .u8 3), (pto kp), (pto mp)] ∧ w18.grownBy w' (some gp))) (ex_cl (fun _ _ => by kernel_rfl) (arg2 (u135.w h191_134) h192_135)) ((asint_any wh Bp_18).mono fun _ _ h => ⟨_, h.1, rfl, h.2⟩) F135.l ?_
    rintro v w19 ⟨rfl, Bp_19, G19⟩
    have Bm_19 := Bm_18.gk G19 ne_m_p
    have Bg_19 := Bg_18.gk G19 hgp
    have Kp19 := Kp18.set G19 (Or.inr lo_p)
    have sg_19 := sg_18.gs Bp_18 G19
    have kk_19 := kk_18.gs Bp_18 G19
    have mm_19 := mm_18.gs Bp_18 G19
    intro a136 u136 h193_136
    have F136 := F135.pt u136
    clear sg_18 kk_18 mm_18
    change Code.wp _ _ _ _ _
    refine wp_seq ?_
    refine rg_list ?_
    have h6_136 := u136.w (u135.w (u134.w h6_133))
    refine wl_p (ex_mv h6_136) F136.l fun a137 u137 h194_137 => ?_
    have F137 := F136.pt u137
    have h2_137 := u137.w (u136.w (u135.w (u134.w (u133.w (u132.w (u131.w (u130.w (u129.w (u128.w (u127.w (u126.w (u125.w (u124.w (u123.w (u122.w (u121.w (u120.w h2_119)))))))))))))))))
    refine wl_p (ex_fb 10 h2_137) F137.l fun a138 u138 h195_138 => ?_
    have F138 := F137.pt u138
    refine wl_p (ex_le (v := (.int .i64 ver)) h195_138 (Bm_19.cell 10)) F138.l fun a139 u139 h196_139 => ?_
    have F139 := F138.pt u139
    refine wl_p (ex_conv (vx := (.int .i64 ver)) (v := (.int .u8 ver)) h196_139 (cv_iu8 _ (by omega) _)) F139.l fun a140 u140 h197_140 => ?_
    have F140 := F139.pt u140
    have h194_140 := u140.w (u139.w (u138.w h194_137))
    refine wl_cl (args := #[(.pointer (some ⟨gp, 0, none⟩)), (.int .u8 ver)]) (R := fun v w' => v = (.tuple #[]) ∧ (Blk w' gp 70 #[(.float .f64 (fn (tmax T segs))), (.int .u64 seq), (.slice (some ⟨gg, 0, none⟩) cap cap), (.string { data := #[] }), (.bool ifr), (.bool clo), (.int .u64 ty), (.int .u64 dsq), (.float .f64 (fb st)), (.bool pre), (.bool wh), (.int .i64 0), (.int .u64 win), (.int .u64 cap), (.int .u64 0), (.int .u64 ((segs.length % cap) : Nat)), (.int .u64 (segs.length : Nat)), (.slice none 0 0), (.int .i64 0), (.int .i8 0), (.int .u8 ver), (pto kp), (pto mp)] ∧ w19.grownBy w' (some gp))) (ex_cl (fun _ _ => by kernel_rfl) (arg2 h194_140 h197_140)) ((setver Bp_19).mono fun _ _ h => ⟨_, h.1, rfl, h.2⟩) F140.l ?_
    rintro v w20 ⟨rfl, Bp_20, G20⟩
    have Bm_20 := Bm_19.gk G20 ne_m_p
    have Bg_20 := Bg_19.gk G20 hgp
    have Kp20 := Kp19.set G20 (Or.inr lo_p)
    have sg_20 := sg_19.gs Bp_19 G20
    have kk_20 := kk_19.gs Bp_19 G20
    have mm_20 := mm_19.gs Bp_19 G20
    intro a141 u141 h198_141
    have F141 := F140.pt u141
    clear sg_19 kk_19 mm_19
    change Code.wp _ _ _ _ _
    refine wp_seq ?_
    refine rg_list ?_
    have h6_141 := u141.w (u140.w (u139.w (u138.w (u137.w h6_136))))
    refine wl_p (ex_mv h6_141) F141.l fun a142 u142 h199_142 => ?_
    have F142 := F141.pt u142
    refine wl_cl (args := #[(.pointer (some ⟨gp, 0, none⟩))]) (R := fun v w' => v = (.string (bs (encT ⟨tmax T segs, seq, gg, ifr, clo, ty, dsq, st, pre, wh, win, cap, segs.length % cap, segs.length, ver, kp, mp⟩ key map segs))) ∧ (Below w0.heap.size w20 w')) (ex_cl (fun _ _ => by kernel_rfl) (arg1 h199_142)) ((string_any (B := w0.heap.size) (d := ⟨tmax T segs, seq, gg, ifr, clo, ty, dsq, st, pre, wh, win, cap, segs.length % cap, segs.length, ver, kp, mp⟩) (key := key) (map := map) (segs := segs) (ptrs := arr) ⟨by dsimp only; omega, by dsimp only; omega, by dsimp only; omega, by dsimp only; omega, by dsimp only; omega, by dsimp only; omega, hff⟩ Bp_20 (kk_20.inn Bp_20) (mm_20.inn Bp_20) Bg_20 rfl (by dsimp only; omega) (by dsimp only; omega) (sg_20.inn Bp_20 hok hhi) (htab.keep fun k hk => Kp20.block k (Nat.lt_of_le_of_lt hk hgt) (by simp)) hgt lo_p).mono fun _ _ h => ⟨_, h.1, rfl, h.2⟩) F142.l ?_
    rintro v w21 ⟨rfl, hBel⟩
    intro a143 u143 h200_143
    have F143 := F142.pt u143
    refine wl_p (ex_as h200_143) F143.l fun a144 u144 h4_144 => ?_
    have F144 := F143.pt u144
    refine wl_p (ex_as (v := (.bool true)) rfl) F144.l fun a145 u145 h5_145 => ?_
    have F145 := F144.pt u145
    change Code.wp _ _ _ _ _
    refine wp_ret ?_
    try simp only [Exit.then, Exit.inBlock]
    exact bodyPost_ret (v := .tuple #[(.string (bs (encT ⟨tmax T segs, seq, gg, ifr, clo, ty, dsq, st, pre, wh, win, cap, segs.length % cap, segs.length, ver, kp, mp⟩ key map segs))), (.bool true)]) ((results_tmp2 rfl _ _ _).trans (by rw [(u145.w h4_144), h5_145])) F145.defers ⟨gg, kp, mp, mm_20.none_, rfl, Kp20.below.trans hBel⟩
end Go.Proofs.YtlphcidpaidclaaGreatDoor
