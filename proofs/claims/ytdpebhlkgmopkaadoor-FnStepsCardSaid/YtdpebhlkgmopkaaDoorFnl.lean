/-
 FnSteps: the law's own steps, the other kinds.
-/
import Derived.Test.YtdpebhlkgmopkaaDoorFns
namespace Go.Proofs.YtdpebhlkgmopkaaDoor
open Go.RowKit
set_option maxRecDepth 100000
theorem sw_9_nil {w00 : World} {N0 wb g16 g17 h k : Nat} {d : WinD} {sv wv : Value} {xs : List StepD} {tl : List Bool} {c7 c8 c48 c49 c50 : Value} {num : Nat} {s : SegD} {kp mp : Option Nat} {kv mv : Value} {a0 : Act} {w0 : World} {R : Exit → Act → World → Prop} (hO : d.Ok k) (hk : k < 900) (hJ : PrJ w00 N0 wb g16 g17 h d sv wv xs tl c7 c8 c48 c49 c50 9 num s kp mp kv mv a0 w0) (hR : ∀ x t a w, SwJ w00 N0 wb g17 d sv wv xs tl c7 c8 c48 c49 c50 x t a w → R .normal a w) (hn : d.segs.length = 0) : (cat [1, 1, 1, 1, 1, 1, 1, 0, 1, 0, 0, 1, 1, 0, 0, 1, 1, 1, 1, 1, 1, 0, 1] fsB).wp Tryd.prog R a0 w0 := by
 obtain ⟨F0, h7_0, h8_0, h48_0, h49_0, h50_0, h9_0, h10_0, h11_0, h14_0, h15_0, h16_0, h17_0, h18_0, h72_0, K_0, H_0, sr_0, wr_0, B16_0, B17_0, ks_0, ms_0, kq_0, mq_0, ok, hnum, hh, hg16, hg17, hw, hfar⟩ := hJ
 have h14_0 : a0.tmps.getD 14 undef = (.int .i64 9) := h14_0
 have h72_0 : a0.tmps.getD 72 undef = (.int .i64 9) := h72_0
 have B17_0 : Blk w0 g17 44 #[(.int .i64 9), (.int .u64 0), (.string s.title), (.string s.uri), (.float .f64 (fb s.e)), (.int .i64 s.li), (.int .i64 s.off), kv, mv, (.slice none 0 0), (.bool s.disc), (.string s.date), (.int .i64 num)] := B17_0
 change Code.wp _ (Code.block _ _) _ _ _
 obtain ⟨⟨kpw, mpw, swv, nwv, Bw_0, kw_0, mw_0, sw_0, nw_0⟩, hwb, hbw⟩ := H_0
 refine wp_block ?_
 refine wp_sr ?_
 refine wl_pq F0 (ex_bin (vy := (.int .i64 0)) (v := (.bool false)) h72_0 rfl (by kernel_rfl)) fun a1 u1 F1 h74_1 => ?_
 refine wl_pq F1 (ex_as h74_1) fun a2 u2 F2 h73_2 => ?_
 change Code.wp _ _ _ _ _
 refine wp_cond_false h73_2 ?_
 refine wp_sr ?_
 refine wl_pq F2 (ex_bin (vy := (.int .i64 1)) (v := (.bool false)) (u2.w (u1.w h72_0)) rfl (by kernel_rfl)) fun a3 u3 F3 h79_3 => ?_
 refine wl_pq F3 (ex_as h79_3) fun a4 u4 F4 h78_4 => ?_
 change Code.wp _ _ _ _ _
 refine wp_cond_false h78_4 ?_
 refine wp_sr ?_
 have h72_4 := u4.w (u3.w (u2.w (u1.w h72_0)))
 refine wl_pq F4 (ex_bin (vy := (.int .i64 2)) (v := (.bool false)) h72_4 rfl (by kernel_rfl)) fun a5 u5 F5 h83_5 => ?_
 refine wl_pq F5 (ex_as h83_5) fun a6 u6 F6 h82_6 => ?_
 change Code.wp _ _ _ _ _
 refine wp_cond_false h82_6 ?_
 refine wp_sr ?_
 refine wl_pq F6 (ex_bin (vy := (.int .i64 3)) (v := (.bool false)) (u6.w (u5.w h72_4)) rfl (by kernel_rfl)) fun a7 u7 F7 h94_7 => ?_
 refine wl_pq F7 (ex_as h94_7) fun a8 u8 F8 h93_8 => ?_
 change Code.wp _ _ _ _ _
 refine wp_cond_false h93_8 ?_
 refine wp_sr ?_
 have h72_8 := u8.w (u7.w (u6.w (u5.w h72_4)))
 refine wl_pq F8 (ex_bin (vy := (.int .i64 4)) (v := (.bool false)) h72_8 rfl (by kernel_rfl)) fun a9 u9 F9 h99_9 => ?_
 refine wl_pq F9 (ex_as h99_9) fun a10 u10 F10 h98_10 => ?_
 change Code.wp _ _ _ _ _
 refine wp_cond_false h98_10 ?_
 refine wp_seq ?_
 refine wp_sr ?_
 refine wl_pq F10 (ex_bin (vy := (.int .i64 5)) (v := (.bool false)) (u10.w (u9.w h72_8)) rfl (by kernel_rfl)) fun a11 u11 F11 h114_11 => ?_
 refine wl_pq F11 (ex_as h114_11) fun a12 u12 F12 h113_12 => ?_
 change Code.wp _ _ _ _ _
 refine wp_cond_false h113_12 ?_
 refine rg_list ?_
 have h72_12 := u12.w (u11.w (u10.w (u9.w h72_8)))
 refine wl_pq F12 (ex_bin (vy := (.int .i64 11)) (v := (.bool false)) h72_12 rfl (by kernel_rfl)) fun a13 u13 F13 h115_13 => ?_
 refine wl_pq F13 (ex_as h115_13) fun a14 u14 F14 h113_14 => ?_
 change Code.wp _ _ _ _ _
 refine wp_cond_false h113_14 ?_
 refine wp_seq ?_
 refine wp_sr ?_
 refine wl_pq F14 (ex_bin (vy := (.int .i64 6)) (v := (.bool false)) (u14.w (u13.w h72_12)) rfl (by kernel_rfl)) fun a15 u15 F15 h132_15 => ?_
 refine wl_pq F15 (ex_as h132_15) fun a16 u16 F16 h131_16 => ?_
 change Code.wp _ _ _ _ _
 refine wp_cond_false h131_16 ?_
 refine rg_list ?_
 have h72_16 := u16.w (u15.w (u14.w (u13.w h72_12)))
 refine wl_pq F16 (ex_bin (vy := (.int .i64 12)) (v := (.bool false)) h72_16 rfl (by kernel_rfl)) fun a17 u17 F17 h133_17 => ?_
 refine wl_pq F17 (ex_as h133_17) fun a18 u18 F18 h131_18 => ?_
 change Code.wp _ _ _ _ _
 refine wp_cond_false h131_18 ?_
 refine wp_sr ?_
 refine wl_pq F18 (ex_bin (vy := (.int .i64 7)) (v := (.bool false)) (u18.w (u17.w h72_16)) rfl (by kernel_rfl)) fun a19 u19 F19 h149_19 => ?_
 refine wl_pq F19 (ex_as h149_19) fun a20 u20 F20 h148_20 => ?_
 change Code.wp _ _ _ _ _
 refine wp_cond_false h148_20 ?_
 refine wp_sr ?_
 have h72_20 := u20.w (u19.w (u18.w (u17.w h72_16)))
 refine wl_pq F20 (ex_bin (vy := (.int .i64 9)) (v := (.bool true)) h72_20 rfl (by kernel_rfl)) fun a21 u21 F21 h169_21 => ?_
 refine wl_pq F21 (ex_as h169_21) fun a22 u22 F22 h168_22 => ?_
 change Code.wp _ _ _ _ _
 refine wp_cond_true h168_22 ?_
 refine wp_sr ?_
 have h9_22 := u22.w (u21.w (u20.w (u19.w (u18.w (u17.w (u16.w (u15.w (u14.w (u13.w (u12.w (u11.w (u10.w (u9.w (u8.w (u7.w (u6.w (u5.w (u4.w (u3.w (u2.w (u1.w h9_0)))))))))))))))))))))
 refine wl_pq F22 (ex_mv h9_22) fun a23 u23 F23 h170_23 => ?_
 refine wl_cl (args := #[(.pointer (some ⟨wb, 0, none⟩))]) (R := fun v w' => v = (.pointer none) ∧ w0.grownBy w' none) (ex_cl (fun _ _ => by kernel_rfl) (arg1 h170_23)) ((last_nil Bw_0 sw_0 hn).mono fun _ _ h => ⟨_, h.1, rfl, h.2⟩) F23.l ?_
 rintro v w1 ⟨rfl, G1⟩
 have B16_1 := B16_0.gn G1
 have B17_1 := B17_0.gn G1
 have Bw_1 := Bw_0.gn G1
 have K_1 := K_0.nw hw G1
 have sr_1 := sr_0.kt (Kt.of_none G1) (by decide) (by decide) (by decide)
 have wr_1 := wr_0.kt (Kt.of_none G1) (by decide)
 have ks_1 := ks_0.kt (Kt.of_none G1) (by decide)
 have ms_1 := ms_0.kt (Kt.of_none G1) (by decide)
 have kq_1 := kq_0.kt (Kt.of_none G1) (by decide)
 have mq_1 := mq_0.kt (Kt.of_none G1) (by decide)
 have sw_1 := sw_0.kt (Kt.of_none G1) (by decide) (by decide) (by decide)
 have nw_1 := nw_0.kt (Kt.of_none G1) (by decide)
 have kw_1 := kw_0.kt (Kt.of_none G1) (by decide)
 have mw_1 := mw_0.kt (Kt.of_none G1) (by decide)
 intro a24 u24 h171_24
 have F24 := F23.pt u24
 clear K_0 sr_0 wr_0 kq_0 mq_0 sw_0 nw_0 kw_0 mw_0
 refine wl_pq F24 (ex_bin (vy := (.pointer none)) (v := (.bool false)) h171_24 rfl (by kernel_rfl)) fun a25 u25 F25 h172_25 => ?_
 refine wl_pq F25 (ex_as h172_25) fun a26 u26 F26 h18_26 => ?_
 change Code.wp _ _ _ _ _
 refine wp_sr ?_
 refine wl_pq F26 (ex_mv h18_26) fun a27 u27 F27 h173_27 => ?_
 change Code.wp _ _ _ _ _
 refine wp_cond_false h173_27 ?_
 refine wp_skip ?_
 have htold : decide (d.segs.length ≠ 0) = false := decide_eq_false (by omega)
 have h7_27 := u27.w (u26.w (u25.w (u24.w (u23.w (u22.w (u21.w (u20.w (u19.w (u18.w (u17.w (u16.w (u15.w (u14.w (u13.w (u12.w (u11.w (u10.w (u9.w (u8.w (u7.w (u6.w (u5.w (u4.w (u3.w (u2.w (u1.w h7_0))))))))))))))))))))))))))
 have h8_27 := u27.w (u26.w (u25.w (u24.w (u23.w (u22.w (u21.w (u20.w (u19.w (u18.w (u17.w (u16.w (u15.w (u14.w (u13.w (u12.w (u11.w (u10.w (u9.w (u8.w (u7.w (u6.w (u5.w (u4.w (u3.w (u2.w (u1.w h8_0))))))))))))))))))))))))))
 have h48_27 := u27.w (u26.w (u25.w (u24.w (u23.w (u22.w (u21.w (u20.w (u19.w (u18.w (u17.w (u16.w (u15.w (u14.w (u13.w (u12.w (u11.w (u10.w (u9.w (u8.w (u7.w (u6.w (u5.w (u4.w (u3.w (u2.w (u1.w h48_0))))))))))))))))))))))))))
 have h49_27 := u27.w (u26.w (u25.w (u24.w (u23.w (u22.w (u21.w (u20.w (u19.w (u18.w (u17.w (u16.w (u15.w (u14.w (u13.w (u12.w (u11.w (u10.w (u9.w (u8.w (u7.w (u6.w (u5.w (u4.w (u3.w (u2.w (u1.w h49_0))))))))))))))))))))))))))
 have h50_27 := u27.w (u26.w (u25.w (u24.w (u23.w (u22.w (u21.w (u20.w (u19.w (u18.w (u17.w (u16.w (u15.w (u14.w (u13.w (u12.w (u11.w (u10.w (u9.w (u8.w (u7.w (u6.w (u5.w (u4.w (u3.w (u2.w (u1.w h50_0))))))))))))))))))))))))))
 have h9_27 := u27.w (u26.w (u25.w (u24.w (u23.w h9_22))))
 have h10_27 := u27.w (u26.w (u25.w (u24.w (u23.w (u22.w (u21.w (u20.w (u19.w (u18.w (u17.w (u16.w (u15.w (u14.w (u13.w (u12.w (u11.w (u10.w (u9.w (u8.w (u7.w (u6.w (u5.w (u4.w (u3.w (u2.w (u1.w h10_0))))))))))))))))))))))))))
 have h11_27 := u27.w (u26.w (u25.w (u24.w (u23.w (u22.w (u21.w (u20.w (u19.w (u18.w (u17.w (u16.w (u15.w (u14.w (u13.w (u12.w (u11.w (u10.w (u9.w (u8.w (u7.w (u6.w (u5.w (u4.w (u3.w (u2.w (u1.w h11_0))))))))))))))))))))))))))
 have h17_27 := u27.w (u26.w (u25.w (u24.w (u23.w (u22.w (u21.w (u20.w (u19.w (u18.w (u17.w (u16.w (u15.w (u14.w (u13.w (u12.w (u11.w (u10.w (u9.w (u8.w (u7.w (u6.w (u5.w (u4.w (u3.w (u2.w (u1.w h17_0))))))))))))))))))))))))))
 exact hR ⟨9, s, num⟩ false _ _ ⟨F27, h7_27, h8_27, h48_27, h49_27, h50_27, h9_27, h10_27, h11_27, h17_27, (u27.w h18_26), K_1, (by show WinS _ _ _ d.discL; unfold WinD.discL; rw [if_pos hn]; exact ⟨⟨_, _, _, _, Bw_1, kw_1, mw_1, sw_1, nw_1⟩, hwb, K_1.le hw⟩), sr_1, wr_1, ⟨_, _, B17_1, ks_1, ms_1⟩, ⟨by simp, ok, hnum, (fun h => by simp at h), (fun h => by simp at h)⟩, htold.symm⟩
theorem sw_9_some {w00 : World} {N0 wb g16 g17 h k : Nat} {d : WinD} {sv wv : Value} {xs : List StepD} {tl : List Bool} {c7 c8 c48 c49 c50 : Value} {num : Nat} {s : SegD} {kp mp : Option Nat} {kv mv : Value} {a0 : Act} {w0 : World} {R : Exit → Act → World → Prop} (hO : d.Ok k) (hk : k < 900) (hJ : PrJ w00 N0 wb g16 g17 h d sv wv xs tl c7 c8 c48 c49 c50 9 num s kp mp kv mv a0 w0) (hR : ∀ x t a w, SwJ w00 N0 wb g17 d sv wv xs tl c7 c8 c48 c49 c50 x t a w → R .normal a w) (hn : 0 < d.segs.length) : (cat [1, 1, 1, 1, 1, 1, 1, 0, 1, 0, 0, 1, 1, 0, 0, 1, 1, 1, 1, 1, 1, 0, 1] fsB).wp Tryd.prog R a0 w0 := by
 obtain ⟨F0, h7_0, h8_0, h48_0, h49_0, h50_0, h9_0, h10_0, h11_0, h14_0, h15_0, h16_0, h17_0, h18_0, h72_0, K_0, H_0, sr_0, wr_0, B16_0, B17_0, ks_0, ms_0, kq_0, mq_0, ok, hnum, hh, hg16, hg17, hw, hfar⟩ := hJ
 have h14_0 : a0.tmps.getD 14 undef = (.int .i64 9) := h14_0
 have h72_0 : a0.tmps.getD 72 undef = (.int .i64 9) := h72_0
 have B17_0 : Blk w0 g17 44 #[(.int .i64 9), (.int .u64 0), (.string s.title), (.string s.uri), (.float .f64 (fb s.e)), (.int .i64 s.li), (.int .i64 s.off), kv, mv, (.slice none 0 0), (.bool s.disc), (.string s.date), (.int .i64 num)] := B17_0
 change Code.wp _ (Code.block _ _) _ _ _
 obtain ⟨⟨kpw, mpw, swv, nwv, Bw_0, kw_0, mw_0, sw_0, nw_0⟩, hwb, hbw⟩ := H_0
 obtain ⟨gl, ul, hix⟩ := sw_0.last hn
 obtain ⟨L, hL⟩ : ∃ L, d.segs[d.segs.length - 1]? = some L := ⟨_, List.getElem?_eq_getElem (by omega)⟩
 refine wp_block ?_
 refine wp_sr ?_
 refine wl_pq F0 (ex_bin (vy := (.int .i64 0)) (v := (.bool false)) h72_0 rfl (by kernel_rfl)) fun a1 u1 F1 h74_1 => ?_
 refine wl_pq F1 (ex_as h74_1) fun a2 u2 F2 h73_2 => ?_
 change Code.wp _ _ _ _ _
 refine wp_cond_false h73_2 ?_
 refine wp_sr ?_
 refine wl_pq F2 (ex_bin (vy := (.int .i64 1)) (v := (.bool false)) (u2.w (u1.w h72_0)) rfl (by kernel_rfl)) fun a3 u3 F3 h79_3 => ?_
 refine wl_pq F3 (ex_as h79_3) fun a4 u4 F4 h78_4 => ?_
 change Code.wp _ _ _ _ _
 refine wp_cond_false h78_4 ?_
 refine wp_sr ?_
 have h72_4 := u4.w (u3.w (u2.w (u1.w h72_0)))
 refine wl_pq F4 (ex_bin (vy := (.int .i64 2)) (v := (.bool false)) h72_4 rfl (by kernel_rfl)) fun a5 u5 F5 h83_5 => ?_
 refine wl_pq F5 (ex_as h83_5) fun a6 u6 F6 h82_6 => ?_
 change Code.wp _ _ _ _ _
 refine wp_cond_false h82_6 ?_
 refine wp_sr ?_
 refine wl_pq F6 (ex_bin (vy := (.int .i64 3)) (v := (.bool false)) (u6.w (u5.w h72_4)) rfl (by kernel_rfl)) fun a7 u7 F7 h94_7 => ?_
 refine wl_pq F7 (ex_as h94_7) fun a8 u8 F8 h93_8 => ?_
 change Code.wp _ _ _ _ _
 refine wp_cond_false h93_8 ?_
 refine wp_sr ?_
 have h72_8 := u8.w (u7.w (u6.w (u5.w h72_4)))
 refine wl_pq F8 (ex_bin (vy := (.int .i64 4)) (v := (.bool false)) h72_8 rfl (by kernel_rfl)) fun a9 u9 F9 h99_9 => ?_
 refine wl_pq F9 (ex_as h99_9) fun a10 u10 F10 h98_10 => ?_
 change Code.wp _ _ _ _ _
 refine wp_cond_false h98_10 ?_
 refine wp_seq ?_
 refine wp_sr ?_
 refine wl_pq F10 (ex_bin (vy := (.int .i64 5)) (v := (.bool false)) (u10.w (u9.w h72_8)) rfl (by kernel_rfl)) fun a11 u11 F11 h114_11 => ?_
 refine wl_pq F11 (ex_as h114_11) fun a12 u12 F12 h113_12 => ?_
 change Code.wp _ _ _ _ _
 refine wp_cond_false h113_12 ?_
 refine rg_list ?_
 have h72_12 := u12.w (u11.w (u10.w (u9.w h72_8)))
 refine wl_pq F12 (ex_bin (vy := (.int .i64 11)) (v := (.bool false)) h72_12 rfl (by kernel_rfl)) fun a13 u13 F13 h115_13 => ?_
 refine wl_pq F13 (ex_as h115_13) fun a14 u14 F14 h113_14 => ?_
 change Code.wp _ _ _ _ _
 refine wp_cond_false h113_14 ?_
 refine wp_seq ?_
 refine wp_sr ?_
 refine wl_pq F14 (ex_bin (vy := (.int .i64 6)) (v := (.bool false)) (u14.w (u13.w h72_12)) rfl (by kernel_rfl)) fun a15 u15 F15 h132_15 => ?_
 refine wl_pq F15 (ex_as h132_15) fun a16 u16 F16 h131_16 => ?_
 change Code.wp _ _ _ _ _
 refine wp_cond_false h131_16 ?_
 refine rg_list ?_
 have h72_16 := u16.w (u15.w (u14.w (u13.w h72_12)))
 refine wl_pq F16 (ex_bin (vy := (.int .i64 12)) (v := (.bool false)) h72_16 rfl (by kernel_rfl)) fun a17 u17 F17 h133_17 => ?_
 refine wl_pq F17 (ex_as h133_17) fun a18 u18 F18 h131_18 => ?_
 change Code.wp _ _ _ _ _
 refine wp_cond_false h131_18 ?_
 refine wp_sr ?_
 refine wl_pq F18 (ex_bin (vy := (.int .i64 7)) (v := (.bool false)) (u18.w (u17.w h72_16)) rfl (by kernel_rfl)) fun a19 u19 F19 h149_19 => ?_
 refine wl_pq F19 (ex_as h149_19) fun a20 u20 F20 h148_20 => ?_
 change Code.wp _ _ _ _ _
 refine wp_cond_false h148_20 ?_
 refine wp_sr ?_
 have h72_20 := u20.w (u19.w (u18.w (u17.w h72_16)))
 refine wl_pq F20 (ex_bin (vy := (.int .i64 9)) (v := (.bool true)) h72_20 rfl (by kernel_rfl)) fun a21 u21 F21 h169_21 => ?_
 refine wl_pq F21 (ex_as h169_21) fun a22 u22 F22 h168_22 => ?_
 change Code.wp _ _ _ _ _
 refine wp_cond_true h168_22 ?_
 refine wp_sr ?_
 have h9_22 := u22.w (u21.w (u20.w (u19.w (u18.w (u17.w (u16.w (u15.w (u14.w (u13.w (u12.w (u11.w (u10.w (u9.w (u8.w (u7.w (u6.w (u5.w (u4.w (u3.w (u2.w (u1.w h9_0)))))))))))))))))))))
 refine wl_pq F22 (ex_mv h9_22) fun a23 u23 F23 h170_23 => ?_
 refine wl_cl (args := #[(.pointer (some ⟨wb, 0, none⟩))]) (R := fun v w' => v = (.pointer (some ⟨gl, ul, none⟩)) ∧ w0.grownBy w' none) (ex_cl (fun _ _ => by kernel_rfl) (arg1 h170_23)) ((last_some Bw_0 sw_0 hn (by have := hO.room; have := hO.p12; omega) hix).mono fun _ _ h => ⟨_, h.1, rfl, h.2⟩) F23.l ?_
 rintro v w1 ⟨rfl, G1⟩
 have B16_1 := B16_0.gn G1
 have B17_1 := B17_0.gn G1
 have Bw_1 := Bw_0.gn G1
 have K_1 := K_0.nw hw G1
 have sr_1 := sr_0.kt (Kt.of_none G1) (by decide) (by decide) (by decide)
 have wr_1 := wr_0.kt (Kt.of_none G1) (by decide)
 have ks_1 := ks_0.kt (Kt.of_none G1) (by decide)
 have ms_1 := ms_0.kt (Kt.of_none G1) (by decide)
 have kq_1 := kq_0.kt (Kt.of_none G1) (by decide)
 have mq_1 := mq_0.kt (Kt.of_none G1) (by decide)
 have sw_1 := sw_0.kt (Kt.of_none G1) (by decide) (by decide) (by decide)
 have nw_1 := nw_0.kt (Kt.of_none G1) (by decide)
 have kw_1 := kw_0.kt (Kt.of_none G1) (by decide)
 have mw_1 := mw_0.kt (Kt.of_none G1) (by decide)
 intro a24 u24 h171_24
 have F24 := F23.pt u24
 clear K_0 sr_0 wr_0 kq_0 mq_0 sw_0 nw_0 kw_0 mw_0
 refine wl_pq F24 (ex_bin (vy := (.pointer none)) (v := (.bool true)) h171_24 rfl (by kernel_rfl)) fun a25 u25 F25 h172_25 => ?_
 refine wl_pq F25 (ex_as h172_25) fun a26 u26 F26 h18_26 => ?_
 change Code.wp _ _ _ _ _
 refine wp_sr ?_
 refine wl_pq F26 (ex_mv h18_26) fun a27 u27 F27 h173_27 => ?_
 change Code.wp _ _ _ _ _
 refine wp_cond_true h173_27 ?_
 refine rg_list ?_
 have h9_27 := u27.w (u26.w (u25.w (u24.w (u23.w h9_22))))
 refine wl_pq F27 (ex_mv h9_27) fun a28 u28 F28 h174_28 => ?_
 refine wl_cl (args := #[(.pointer (some ⟨wb, 0, none⟩))]) (R := fun v w' => v = (.pointer (some ⟨gl, ul, none⟩)) ∧ w1.grownBy w' none) (ex_cl (fun _ _ => by kernel_rfl) (arg1 h174_28)) ((last_some Bw_1 sw_1 hn (by have := hO.room; have := hO.p12; omega) hix).mono fun _ _ h => ⟨_, h.1, rfl, h.2⟩) F28.l ?_
 rintro v w2 ⟨rfl, G2⟩
 have B16_2 := B16_1.gn G2
 have B17_2 := B17_1.gn G2
 have Bw_2 := Bw_1.gn G2
 have K_2 := K_1.nw hw G2
 have sr_2 := sr_1.kt (Kt.of_none G2) (by decide) (by decide) (by decide)
 have wr_2 := wr_1.kt (Kt.of_none G2) (by decide)
 have ks_2 := ks_1.kt (Kt.of_none G2) (by decide)
 have ms_2 := ms_1.kt (Kt.of_none G2) (by decide)
 have kq_2 := kq_1.kt (Kt.of_none G2) (by decide)
 have mq_2 := mq_1.kt (Kt.of_none G2) (by decide)
 have sw_2 := sw_1.kt (Kt.of_none G2) (by decide) (by decide) (by decide)
 have nw_2 := nw_1.kt (Kt.of_none G2) (by decide)
 have kw_2 := kw_1.kt (Kt.of_none G2) (by decide)
 have mw_2 := mw_1.kt (Kt.of_none G2) (by decide)
 intro a29 u29 h175_29
 have F29 := F28.pt u29
 clear K_1 sr_1 wr_1 kq_1 mq_1 sw_1 nw_1 kw_1 mw_1
 refine wl_pq F29 (ex_nil h175_29) fun a30 u30 F30 h176_30 => ?_
 refine wl_pq F30 (ex_fag (vx := (.pointer (some ⟨gl, ul, none⟩))) (v := (.pointer (some ⟨gl, ul + 7, none⟩))) h176_30 (by kernel_rfl)) fun a31 u31 F31 h177_31 => ?_
 obtain ⟨w3, hr3, sw_3, G3, ⟨cur3, hcur3⟩, hge3⟩ := sw_2.setL (T := 4) (f := 7) (j := d.segs.length - 1) (u := (.bool true)) (L := L) (L' := { L with disc := true }) (fun _ => by kernel_rfl) hL (by decide) rfl hix (fun kp mp hk hm => ⟨kp, mp, fun k hk => by rcases k with _ | _ | _ | _ | _ | _ | _ | _ | _ | k <;> first | rfl | omega, hk, hm⟩)
 have KB3 := Kt.of_blk hcur3 G3
 have B17_3 := B17_2.kt KB3 (by decide)
 have Bw_3 := Bw_2.kt KB3 (by decide)
 have K_3 := K_2.blk hw hcur3 hge3 (by decide) G3
 have sr_3 := sr_2.kt KB3 (by decide) (by decide) (by decide)
 have wr_3 := wr_2.kt KB3 (by decide)
 have ks_3 := ks_2.kt KB3 (by decide)
 have ms_3 := ms_2.kt KB3 (by decide)
 have kq_3 := kq_2.kt KB3 (by decide)
 have mq_3 := mq_2.kt KB3 (by decide)
 have nw_3 := nw_2.kt KB3 (by decide)
 have kw_3 := kw_2.kt KB3 (by decide)
 have mw_3 := mw_2.kt KB3 (by decide)
 refine wl_n (ex_st h177_31 rfl hr3) ?_
 clear sw_2 hcur3 hge3 KB3 K_2 sr_2 wr_2 kq_2 mq_2 nw_2 kw_2 mw_2
 have htold : decide (d.segs.length ≠ 0) = true := decide_eq_true (by omega)
 have h7_31 := u31.w (u30.w (u29.w (u28.w (u27.w (u26.w (u25.w (u24.w (u23.w (u22.w (u21.w (u20.w (u19.w (u18.w (u17.w (u16.w (u15.w (u14.w (u13.w (u12.w (u11.w (u10.w (u9.w (u8.w (u7.w (u6.w (u5.w (u4.w (u3.w (u2.w (u1.w h7_0))))))))))))))))))))))))))))))
 have h8_31 := u31.w (u30.w (u29.w (u28.w (u27.w (u26.w (u25.w (u24.w (u23.w (u22.w (u21.w (u20.w (u19.w (u18.w (u17.w (u16.w (u15.w (u14.w (u13.w (u12.w (u11.w (u10.w (u9.w (u8.w (u7.w (u6.w (u5.w (u4.w (u3.w (u2.w (u1.w h8_0))))))))))))))))))))))))))))))
 have h48_31 := u31.w (u30.w (u29.w (u28.w (u27.w (u26.w (u25.w (u24.w (u23.w (u22.w (u21.w (u20.w (u19.w (u18.w (u17.w (u16.w (u15.w (u14.w (u13.w (u12.w (u11.w (u10.w (u9.w (u8.w (u7.w (u6.w (u5.w (u4.w (u3.w (u2.w (u1.w h48_0))))))))))))))))))))))))))))))
 have h49_31 := u31.w (u30.w (u29.w (u28.w (u27.w (u26.w (u25.w (u24.w (u23.w (u22.w (u21.w (u20.w (u19.w (u18.w (u17.w (u16.w (u15.w (u14.w (u13.w (u12.w (u11.w (u10.w (u9.w (u8.w (u7.w (u6.w (u5.w (u4.w (u3.w (u2.w (u1.w h49_0))))))))))))))))))))))))))))))
 have h50_31 := u31.w (u30.w (u29.w (u28.w (u27.w (u26.w (u25.w (u24.w (u23.w (u22.w (u21.w (u20.w (u19.w (u18.w (u17.w (u16.w (u15.w (u14.w (u13.w (u12.w (u11.w (u10.w (u9.w (u8.w (u7.w (u6.w (u5.w (u4.w (u3.w (u2.w (u1.w h50_0))))))))))))))))))))))))))))))
 have h9_31 := u31.w (u30.w (u29.w (u28.w h9_27)))
 have h10_31 := u31.w (u30.w (u29.w (u28.w (u27.w (u26.w (u25.w (u24.w (u23.w (u22.w (u21.w (u20.w (u19.w (u18.w (u17.w (u16.w (u15.w (u14.w (u13.w (u12.w (u11.w (u10.w (u9.w (u8.w (u7.w (u6.w (u5.w (u4.w (u3.w (u2.w (u1.w h10_0))))))))))))))))))))))))))))))
 have h11_31 := u31.w (u30.w (u29.w (u28.w (u27.w (u26.w (u25.w (u24.w (u23.w (u22.w (u21.w (u20.w (u19.w (u18.w (u17.w (u16.w (u15.w (u14.w (u13.w (u12.w (u11.w (u10.w (u9.w (u8.w (u7.w (u6.w (u5.w (u4.w (u3.w (u2.w (u1.w h11_0))))))))))))))))))))))))))))))
 have h17_31 := u31.w (u30.w (u29.w (u28.w (u27.w (u26.w (u25.w (u24.w (u23.w (u22.w (u21.w (u20.w (u19.w (u18.w (u17.w (u16.w (u15.w (u14.w (u13.w (u12.w (u11.w (u10.w (u9.w (u8.w (u7.w (u6.w (u5.w (u4.w (u3.w (u2.w (u1.w h17_0))))))))))))))))))))))))))))))
 have h18_31 := u31.w (u30.w (u29.w (u28.w (u27.w h18_26))))
 exact hR ⟨9, s, num⟩ true _ _ ⟨F31, h7_31, h8_31, h48_31, h49_31, h50_31, h9_31, h10_31, h11_31, h17_31, h18_31, K_3, (by show WinS _ _ _ d.discL; unfold WinD.discL; rw [if_neg (by omega), WinD.upd_some hL]; exact ⟨⟨_, _, _, _, Bw_3, kw_3, mw_3, sw_3, nw_3⟩, hwb, K_3.le hw⟩), sr_3, wr_3, ⟨_, _, B17_3, ks_3, ms_3⟩, ⟨by simp, ok, hnum, (fun h => by simp at h), (fun h => by simp at h)⟩, htold.symm⟩
theorem sw_10_nil {w00 : World} {N0 wb g16 g17 h k : Nat} {d : WinD} {sv wv : Value} {xs : List StepD} {tl : List Bool} {c7 c8 c48 c49 c50 : Value} {num : Nat} {s : SegD} {kp mp : Option Nat} {kv mv : Value} {a0 : Act} {w0 : World} {R : Exit → Act → World → Prop} (hO : d.Ok k) (hk : k < 900) (hJ : PrJ w00 N0 wb g16 g17 h d sv wv xs tl c7 c8 c48 c49 c50 10 num s kp mp kv mv a0 w0) (hR : ∀ x t a w, SwJ w00 N0 wb g17 d sv wv xs tl c7 c8 c48 c49 c50 x t a w → R .normal a w) (hn : d.segs.length = 0) : (cat [1, 1, 1, 1, 1, 1, 1, 0, 1, 0, 0, 1, 1, 0, 0, 1, 1, 1, 1, 1, 1, 0, 1] fsB).wp Tryd.prog R a0 w0 := by
 obtain ⟨F0, h7_0, h8_0, h48_0, h49_0, h50_0, h9_0, h10_0, h11_0, h14_0, h15_0, h16_0, h17_0, h18_0, h72_0, K_0, H_0, sr_0, wr_0, B16_0, B17_0, ks_0, ms_0, kq_0, mq_0, ok, hnum, hh, hg16, hg17, hw, hfar⟩ := hJ
 have h14_0 : a0.tmps.getD 14 undef = (.int .i64 10) := h14_0
 have h72_0 : a0.tmps.getD 72 undef = (.int .i64 10) := h72_0
 have B17_0 : Blk w0 g17 44 #[(.int .i64 10), (.int .u64 0), (.string s.title), (.string s.uri), (.float .f64 (fb s.e)), (.int .i64 s.li), (.int .i64 s.off), kv, mv, (.slice none 0 0), (.bool s.disc), (.string s.date), (.int .i64 num)] := B17_0
 change Code.wp _ (Code.block _ _) _ _ _
 obtain ⟨⟨kpw, mpw, swv, nwv, Bw_0, kw_0, mw_0, sw_0, nw_0⟩, hwb, hbw⟩ := H_0
 refine wp_block ?_
 refine wp_sr ?_
 refine wl_pq F0 (ex_bin (vy := (.int .i64 0)) (v := (.bool false)) h72_0 rfl (by kernel_rfl)) fun a1 u1 F1 h74_1 => ?_
 refine wl_pq F1 (ex_as h74_1) fun a2 u2 F2 h73_2 => ?_
 change Code.wp _ _ _ _ _
 refine wp_cond_false h73_2 ?_
 refine wp_sr ?_
 refine wl_pq F2 (ex_bin (vy := (.int .i64 1)) (v := (.bool false)) (u2.w (u1.w h72_0)) rfl (by kernel_rfl)) fun a3 u3 F3 h79_3 => ?_
 refine wl_pq F3 (ex_as h79_3) fun a4 u4 F4 h78_4 => ?_
 change Code.wp _ _ _ _ _
 refine wp_cond_false h78_4 ?_
 refine wp_sr ?_
 have h72_4 := u4.w (u3.w (u2.w (u1.w h72_0)))
 refine wl_pq F4 (ex_bin (vy := (.int .i64 2)) (v := (.bool false)) h72_4 rfl (by kernel_rfl)) fun a5 u5 F5 h83_5 => ?_
 refine wl_pq F5 (ex_as h83_5) fun a6 u6 F6 h82_6 => ?_
 change Code.wp _ _ _ _ _
 refine wp_cond_false h82_6 ?_
 refine wp_sr ?_
 refine wl_pq F6 (ex_bin (vy := (.int .i64 3)) (v := (.bool false)) (u6.w (u5.w h72_4)) rfl (by kernel_rfl)) fun a7 u7 F7 h94_7 => ?_
 refine wl_pq F7 (ex_as h94_7) fun a8 u8 F8 h93_8 => ?_
 change Code.wp _ _ _ _ _
 refine wp_cond_false h93_8 ?_
 refine wp_sr ?_
 have h72_8 := u8.w (u7.w (u6.w (u5.w h72_4)))
 refine wl_pq F8 (ex_bin (vy := (.int .i64 4)) (v := (.bool false)) h72_8 rfl (by kernel_rfl)) fun a9 u9 F9 h99_9 => ?_
 refine wl_pq F9 (ex_as h99_9) fun a10 u10 F10 h98_10 => ?_
 change Code.wp _ _ _ _ _
 refine wp_cond_false h98_10 ?_
 refine wp_seq ?_
 refine wp_sr ?_
 refine wl_pq F10 (ex_bin (vy := (.int .i64 5)) (v := (.bool false)) (u10.w (u9.w h72_8)) rfl (by kernel_rfl)) fun a11 u11 F11 h114_11 => ?_
 refine wl_pq F11 (ex_as h114_11) fun a12 u12 F12 h113_12 => ?_
 change Code.wp _ _ _ _ _
 refine wp_cond_false h113_12 ?_
 refine rg_list ?_
 have h72_12 := u12.w (u11.w (u10.w (u9.w h72_8)))
 refine wl_pq F12 (ex_bin (vy := (.int .i64 11)) (v := (.bool false)) h72_12 rfl (by kernel_rfl)) fun a13 u13 F13 h115_13 => ?_
 refine wl_pq F13 (ex_as h115_13) fun a14 u14 F14 h113_14 => ?_
 change Code.wp _ _ _ _ _
 refine wp_cond_false h113_14 ?_
 refine wp_seq ?_
 refine wp_sr ?_
 refine wl_pq F14 (ex_bin (vy := (.int .i64 6)) (v := (.bool false)) (u14.w (u13.w h72_12)) rfl (by kernel_rfl)) fun a15 u15 F15 h132_15 => ?_
 refine wl_pq F15 (ex_as h132_15) fun a16 u16 F16 h131_16 => ?_
 change Code.wp _ _ _ _ _
 refine wp_cond_false h131_16 ?_
 refine rg_list ?_
 have h72_16 := u16.w (u15.w (u14.w (u13.w h72_12)))
 refine wl_pq F16 (ex_bin (vy := (.int .i64 12)) (v := (.bool false)) h72_16 rfl (by kernel_rfl)) fun a17 u17 F17 h133_17 => ?_
 refine wl_pq F17 (ex_as h133_17) fun a18 u18 F18 h131_18 => ?_
 change Code.wp _ _ _ _ _
 refine wp_cond_false h131_18 ?_
 refine wp_sr ?_
 refine wl_pq F18 (ex_bin (vy := (.int .i64 7)) (v := (.bool false)) (u18.w (u17.w h72_16)) rfl (by kernel_rfl)) fun a19 u19 F19 h149_19 => ?_
 refine wl_pq F19 (ex_as h149_19) fun a20 u20 F20 h148_20 => ?_
 change Code.wp _ _ _ _ _
 refine wp_cond_false h148_20 ?_
 refine wp_sr ?_
 have h72_20 := u20.w (u19.w (u18.w (u17.w h72_16)))
 refine wl_pq F20 (ex_bin (vy := (.int .i64 9)) (v := (.bool false)) h72_20 rfl (by kernel_rfl)) fun a21 u21 F21 h169_21 => ?_
 refine wl_pq F21 (ex_as h169_21) fun a22 u22 F22 h168_22 => ?_
 change Code.wp _ _ _ _ _
 refine wp_cond_false h168_22 ?_
 refine wp_sr ?_
 refine wl_pq F22 (ex_bin (vy := (.int .i64 10)) (v := (.bool true)) (u22.w (u21.w h72_20)) rfl (by kernel_rfl)) fun a23 u23 F23 h179_23 => ?_
 refine wl_pq F23 (ex_as h179_23) fun a24 u24 F24 h178_24 => ?_
 change Code.wp _ _ _ _ _
 refine wp_cond_true h178_24 ?_
 refine wp_sr ?_
 have h17_24 := u24.w (u23.w (u22.w (u21.w (u20.w (u19.w (u18.w (u17.w (u16.w (u15.w (u14.w (u13.w (u12.w (u11.w (u10.w (u9.w (u8.w (u7.w (u6.w (u5.w (u4.w (u3.w (u2.w (u1.w h17_0)))))))))))))))))))))))
 refine wl_pq F24 (ex_fb 1 h17_24) fun a25 u25 F25 h180_25 => ?_
 refine wl_pq F25 (ex_fag (vx := (.pointer (some ⟨g17, 1, none⟩))) (v := (.pointer (some ⟨g17, 11, none⟩))) h180_25 (by kernel_rfl)) fun a26 u26 F26 h181_26 => ?_
 obtain ⟨w1, hr1, B17_1, G1⟩ := st_run (T := 9) (o := 11) (v := (.string { data := #[50, 48, 51, 49, 45, 48, 49, 45, 48, 50, 84, 48, 51, 58, 48, 52, 58, 48, 53, 90] })) (cs' := #[(.int .i64 10), (.int .u64 0), (.string s.title), (.string s.uri), (.float .f64 (fb s.e)), (.int .i64 s.li), (.int .i64 s.off), kv, mv, (.slice none 0 0), (.bool s.disc), (.string { data := #[50, 48, 51, 49, 45, 48, 49, 45, 48, 50, 84, 48, 51, 58, 48, 52, 58, 48, 53, 90] }), (.int .i64 num)]) (fun _ => by kernel_rfl) B17_0 rfl (Nat.le_of_ble_eq_true rfl) rfl
 have B16_1 := B16_0.gk G1 (B16_0.ne_ B17_0 (by decide))
 have Bw_1 := Bw_0.gk G1 (Bw_0.ne_ B17_0 (by decide))
 have K_1 := K_0.blk hw B17_0 hg17 (by decide) G1
 have sr_1 := sr_0.gfar B17_0 (by decide) (by decide) hfar G1
 have wr_1 := wr_0.kt (Kt.of_blk B17_0 G1) (by decide)
 have ks_1 := ks_0.kt (Kt.of_blk B17_0 G1) (by decide)
 have ms_1 := ms_0.kt (Kt.of_blk B17_0 G1) (by decide)
 have kq_1 := kq_0.kt (Kt.of_blk B17_0 G1) (by decide)
 have mq_1 := mq_0.kt (Kt.of_blk B17_0 G1) (by decide)
 have sw_1 := sw_0.kt (Kt.of_blk B17_0 G1) (by decide) (by decide) (by decide)
 have nw_1 := nw_0.kt (Kt.of_blk B17_0 G1) (by decide)
 have kw_1 := kw_0.kt (Kt.of_blk B17_0 G1) (by decide)
 have mw_1 := mw_0.kt (Kt.of_blk B17_0 G1) (by decide)
 refine wl_n (ex_st h181_26 rfl hr1) ?_
 clear K_0 sr_0 wr_0 kq_0 mq_0 sw_0 nw_0 kw_0 mw_0
 change Code.wp _ _ _ _ _
 refine wp_sr ?_
 have h9_26 := u26.w (u25.w (u24.w (u23.w (u22.w (u21.w (u20.w (u19.w (u18.w (u17.w (u16.w (u15.w (u14.w (u13.w (u12.w (u11.w (u10.w (u9.w (u8.w (u7.w (u6.w (u5.w (u4.w (u3.w (u2.w (u1.w h9_0)))))))))))))))))))))))))
 refine wl_pq F26 (ex_mv h9_26) fun a27 u27 F27 h182_27 => ?_
 refine wl_cl (args := #[(.pointer (some ⟨wb, 0, none⟩))]) (R := fun v w' => v = (.pointer none) ∧ w1.grownBy w' none) (ex_cl (fun _ _ => by kernel_rfl) (arg1 h182_27)) ((last_nil Bw_1 sw_1 hn).mono fun _ _ h => ⟨_, h.1, rfl, h.2⟩) F27.l ?_
 rintro v w2 ⟨rfl, G2⟩
 have B16_2 := B16_1.gn G2
 have B17_2 := B17_1.gn G2
 have Bw_2 := Bw_1.gn G2
 have K_2 := K_1.nw hw G2
 have sr_2 := sr_1.kt (Kt.of_none G2) (by decide) (by decide) (by decide)
 have wr_2 := wr_1.kt (Kt.of_none G2) (by decide)
 have ks_2 := ks_1.kt (Kt.of_none G2) (by decide)
 have ms_2 := ms_1.kt (Kt.of_none G2) (by decide)
 have kq_2 := kq_1.kt (Kt.of_none G2) (by decide)
 have mq_2 := mq_1.kt (Kt.of_none G2) (by decide)
 have sw_2 := sw_1.kt (Kt.of_none G2) (by decide) (by decide) (by decide)
 have nw_2 := nw_1.kt (Kt.of_none G2) (by decide)
 have kw_2 := kw_1.kt (Kt.of_none G2) (by decide)
 have mw_2 := mw_1.kt (Kt.of_none G2) (by decide)
 intro a28 u28 h183_28
 have F28 := F27.pt u28
 clear K_1 sr_1 wr_1 kq_1 mq_1 sw_1 nw_1 kw_1 mw_1
 refine wl_pq F28 (ex_bin (vy := (.pointer none)) (v := (.bool false)) h183_28 rfl (by kernel_rfl)) fun a29 u29 F29 h184_29 => ?_
 refine wl_pq F29 (ex_as h184_29) fun a30 u30 F30 h18_30 => ?_
 change Code.wp _ _ _ _ _
 refine wp_sr ?_
 refine wl_pq F30 (ex_mv h18_30) fun a31 u31 F31 h185_31 => ?_
 change Code.wp _ _ _ _ _
 refine wp_cond_false h185_31 ?_
 refine wp_skip ?_
 have htold : decide (d.segs.length ≠ 0) = false := decide_eq_false (by omega)
 have h7_31 := u31.w (u30.w (u29.w (u28.w (u27.w (u26.w (u25.w (u24.w (u23.w (u22.w (u21.w (u20.w (u19.w (u18.w (u17.w (u16.w (u15.w (u14.w (u13.w (u12.w (u11.w (u10.w (u9.w (u8.w (u7.w (u6.w (u5.w (u4.w (u3.w (u2.w (u1.w h7_0))))))))))))))))))))))))))))))
 have h8_31 := u31.w (u30.w (u29.w (u28.w (u27.w (u26.w (u25.w (u24.w (u23.w (u22.w (u21.w (u20.w (u19.w (u18.w (u17.w (u16.w (u15.w (u14.w (u13.w (u12.w (u11.w (u10.w (u9.w (u8.w (u7.w (u6.w (u5.w (u4.w (u3.w (u2.w (u1.w h8_0))))))))))))))))))))))))))))))
 have h48_31 := u31.w (u30.w (u29.w (u28.w (u27.w (u26.w (u25.w (u24.w (u23.w (u22.w (u21.w (u20.w (u19.w (u18.w (u17.w (u16.w (u15.w (u14.w (u13.w (u12.w (u11.w (u10.w (u9.w (u8.w (u7.w (u6.w (u5.w (u4.w (u3.w (u2.w (u1.w h48_0))))))))))))))))))))))))))))))
 have h49_31 := u31.w (u30.w (u29.w (u28.w (u27.w (u26.w (u25.w (u24.w (u23.w (u22.w (u21.w (u20.w (u19.w (u18.w (u17.w (u16.w (u15.w (u14.w (u13.w (u12.w (u11.w (u10.w (u9.w (u8.w (u7.w (u6.w (u5.w (u4.w (u3.w (u2.w (u1.w h49_0))))))))))))))))))))))))))))))
 have h50_31 := u31.w (u30.w (u29.w (u28.w (u27.w (u26.w (u25.w (u24.w (u23.w (u22.w (u21.w (u20.w (u19.w (u18.w (u17.w (u16.w (u15.w (u14.w (u13.w (u12.w (u11.w (u10.w (u9.w (u8.w (u7.w (u6.w (u5.w (u4.w (u3.w (u2.w (u1.w h50_0))))))))))))))))))))))))))))))
 have h9_31 := u31.w (u30.w (u29.w (u28.w (u27.w h9_26))))
 have h10_31 := u31.w (u30.w (u29.w (u28.w (u27.w (u26.w (u25.w (u24.w (u23.w (u22.w (u21.w (u20.w (u19.w (u18.w (u17.w (u16.w (u15.w (u14.w (u13.w (u12.w (u11.w (u10.w (u9.w (u8.w (u7.w (u6.w (u5.w (u4.w (u3.w (u2.w (u1.w h10_0))))))))))))))))))))))))))))))
 have h11_31 := u31.w (u30.w (u29.w (u28.w (u27.w (u26.w (u25.w (u24.w (u23.w (u22.w (u21.w (u20.w (u19.w (u18.w (u17.w (u16.w (u15.w (u14.w (u13.w (u12.w (u11.w (u10.w (u9.w (u8.w (u7.w (u6.w (u5.w (u4.w (u3.w (u2.w (u1.w h11_0))))))))))))))))))))))))))))))
 have h17_31 := u31.w (u30.w (u29.w (u28.w (u27.w (u26.w (u25.w h17_24))))))
 exact hR ⟨10, { s with date := ⟨#[50, 48, 51, 49, 45, 48, 49, 45, 48, 50, 84, 48, 51, 58, 48, 52, 58, 48, 53, 90]⟩ }, num⟩ false _ _ ⟨F31, h7_31, h8_31, h48_31, h49_31, h50_31, h9_31, h10_31, h11_31, h17_31, (u31.w h18_30), K_2, (by show WinS _ _ _ (d.dateL ⟨#[50, 48, 51, 49, 45, 48, 49, 45, 48, 50, 84, 48, 51, 58, 48, 52, 58, 48, 53, 90]⟩); unfold WinD.dateL; rw [if_pos hn]; exact ⟨⟨_, _, _, _, Bw_2, kw_2, mw_2, sw_2, nw_2⟩, hwb, K_2.le hw⟩), sr_2, wr_2, ⟨_, _, B17_2, ks_2, ms_2⟩, ⟨by simp, (ok.date (Nat.le_of_ble_eq_true rfl)), hnum, (fun h => by simp at h), (fun h => by simp at h)⟩, htold.symm⟩
theorem sw_10_some {w00 : World} {N0 wb g16 g17 h k : Nat} {d : WinD} {sv wv : Value} {xs : List StepD} {tl : List Bool} {c7 c8 c48 c49 c50 : Value} {num : Nat} {s : SegD} {kp mp : Option Nat} {kv mv : Value} {a0 : Act} {w0 : World} {R : Exit → Act → World → Prop} (hO : d.Ok k) (hk : k < 900) (hJ : PrJ w00 N0 wb g16 g17 h d sv wv xs tl c7 c8 c48 c49 c50 10 num s kp mp kv mv a0 w0) (hR : ∀ x t a w, SwJ w00 N0 wb g17 d sv wv xs tl c7 c8 c48 c49 c50 x t a w → R .normal a w) (hn : 0 < d.segs.length) : (cat [1, 1, 1, 1, 1, 1, 1, 0, 1, 0, 0, 1, 1, 0, 0, 1, 1, 1, 1, 1, 1, 0, 1] fsB).wp Tryd.prog R a0 w0 := by
 obtain ⟨F0, h7_0, h8_0, h48_0, h49_0, h50_0, h9_0, h10_0, h11_0, h14_0, h15_0, h16_0, h17_0, h18_0, h72_0, K_0, H_0, sr_0, wr_0, B16_0, B17_0, ks_0, ms_0, kq_0, mq_0, ok, hnum, hh, hg16, hg17, hw, hfar⟩ := hJ
 have h14_0 : a0.tmps.getD 14 undef = (.int .i64 10) := h14_0
 have h72_0 : a0.tmps.getD 72 undef = (.int .i64 10) := h72_0
 have B17_0 : Blk w0 g17 44 #[(.int .i64 10), (.int .u64 0), (.string s.title), (.string s.uri), (.float .f64 (fb s.e)), (.int .i64 s.li), (.int .i64 s.off), kv, mv, (.slice none 0 0), (.bool s.disc), (.string s.date), (.int .i64 num)] := B17_0
 change Code.wp _ (Code.block _ _) _ _ _
 obtain ⟨⟨kpw, mpw, swv, nwv, Bw_0, kw_0, mw_0, sw_0, nw_0⟩, hwb, hbw⟩ := H_0
 obtain ⟨gl, ul, hix⟩ := sw_0.last hn
 obtain ⟨L, hL⟩ : ∃ L, d.segs[d.segs.length - 1]? = some L := ⟨_, List.getElem?_eq_getElem (by omega)⟩
 refine wp_block ?_
 refine wp_sr ?_
 refine wl_pq F0 (ex_bin (vy := (.int .i64 0)) (v := (.bool false)) h72_0 rfl (by kernel_rfl)) fun a1 u1 F1 h74_1 => ?_
 refine wl_pq F1 (ex_as h74_1) fun a2 u2 F2 h73_2 => ?_
 change Code.wp _ _ _ _ _
 refine wp_cond_false h73_2 ?_
 refine wp_sr ?_
 refine wl_pq F2 (ex_bin (vy := (.int .i64 1)) (v := (.bool false)) (u2.w (u1.w h72_0)) rfl (by kernel_rfl)) fun a3 u3 F3 h79_3 => ?_
 refine wl_pq F3 (ex_as h79_3) fun a4 u4 F4 h78_4 => ?_
 change Code.wp _ _ _ _ _
 refine wp_cond_false h78_4 ?_
 refine wp_sr ?_
 have h72_4 := u4.w (u3.w (u2.w (u1.w h72_0)))
 refine wl_pq F4 (ex_bin (vy := (.int .i64 2)) (v := (.bool false)) h72_4 rfl (by kernel_rfl)) fun a5 u5 F5 h83_5 => ?_
 refine wl_pq F5 (ex_as h83_5) fun a6 u6 F6 h82_6 => ?_
 change Code.wp _ _ _ _ _
 refine wp_cond_false h82_6 ?_
 refine wp_sr ?_
 refine wl_pq F6 (ex_bin (vy := (.int .i64 3)) (v := (.bool false)) (u6.w (u5.w h72_4)) rfl (by kernel_rfl)) fun a7 u7 F7 h94_7 => ?_
 refine wl_pq F7 (ex_as h94_7) fun a8 u8 F8 h93_8 => ?_
 change Code.wp _ _ _ _ _
 refine wp_cond_false h93_8 ?_
 refine wp_sr ?_
 have h72_8 := u8.w (u7.w (u6.w (u5.w h72_4)))
 refine wl_pq F8 (ex_bin (vy := (.int .i64 4)) (v := (.bool false)) h72_8 rfl (by kernel_rfl)) fun a9 u9 F9 h99_9 => ?_
 refine wl_pq F9 (ex_as h99_9) fun a10 u10 F10 h98_10 => ?_
 change Code.wp _ _ _ _ _
 refine wp_cond_false h98_10 ?_
 refine wp_seq ?_
 refine wp_sr ?_
 refine wl_pq F10 (ex_bin (vy := (.int .i64 5)) (v := (.bool false)) (u10.w (u9.w h72_8)) rfl (by kernel_rfl)) fun a11 u11 F11 h114_11 => ?_
 refine wl_pq F11 (ex_as h114_11) fun a12 u12 F12 h113_12 => ?_
 change Code.wp _ _ _ _ _
 refine wp_cond_false h113_12 ?_
 refine rg_list ?_
 have h72_12 := u12.w (u11.w (u10.w (u9.w h72_8)))
 refine wl_pq F12 (ex_bin (vy := (.int .i64 11)) (v := (.bool false)) h72_12 rfl (by kernel_rfl)) fun a13 u13 F13 h115_13 => ?_
 refine wl_pq F13 (ex_as h115_13) fun a14 u14 F14 h113_14 => ?_
 change Code.wp _ _ _ _ _
 refine wp_cond_false h113_14 ?_
 refine wp_seq ?_
 refine wp_sr ?_
 refine wl_pq F14 (ex_bin (vy := (.int .i64 6)) (v := (.bool false)) (u14.w (u13.w h72_12)) rfl (by kernel_rfl)) fun a15 u15 F15 h132_15 => ?_
 refine wl_pq F15 (ex_as h132_15) fun a16 u16 F16 h131_16 => ?_
 change Code.wp _ _ _ _ _
 refine wp_cond_false h131_16 ?_
 refine rg_list ?_
 have h72_16 := u16.w (u15.w (u14.w (u13.w h72_12)))
 refine wl_pq F16 (ex_bin (vy := (.int .i64 12)) (v := (.bool false)) h72_16 rfl (by kernel_rfl)) fun a17 u17 F17 h133_17 => ?_
 refine wl_pq F17 (ex_as h133_17) fun a18 u18 F18 h131_18 => ?_
 change Code.wp _ _ _ _ _
 refine wp_cond_false h131_18 ?_
 refine wp_sr ?_
 refine wl_pq F18 (ex_bin (vy := (.int .i64 7)) (v := (.bool false)) (u18.w (u17.w h72_16)) rfl (by kernel_rfl)) fun a19 u19 F19 h149_19 => ?_
 refine wl_pq F19 (ex_as h149_19) fun a20 u20 F20 h148_20 => ?_
 change Code.wp _ _ _ _ _
 refine wp_cond_false h148_20 ?_
 refine wp_sr ?_
 have h72_20 := u20.w (u19.w (u18.w (u17.w h72_16)))
 refine wl_pq F20 (ex_bin (vy := (.int .i64 9)) (v := (.bool false)) h72_20 rfl (by kernel_rfl)) fun a21 u21 F21 h169_21 => ?_
 refine wl_pq F21 (ex_as h169_21) fun a22 u22 F22 h168_22 => ?_
 change Code.wp _ _ _ _ _
 refine wp_cond_false h168_22 ?_
 refine wp_sr ?_
 refine wl_pq F22 (ex_bin (vy := (.int .i64 10)) (v := (.bool true)) (u22.w (u21.w h72_20)) rfl (by kernel_rfl)) fun a23 u23 F23 h179_23 => ?_
 refine wl_pq F23 (ex_as h179_23) fun a24 u24 F24 h178_24 => ?_
 change Code.wp _ _ _ _ _
 refine wp_cond_true h178_24 ?_
 refine wp_sr ?_
 have h17_24 := u24.w (u23.w (u22.w (u21.w (u20.w (u19.w (u18.w (u17.w (u16.w (u15.w (u14.w (u13.w (u12.w (u11.w (u10.w (u9.w (u8.w (u7.w (u6.w (u5.w (u4.w (u3.w (u2.w (u1.w h17_0)))))))))))))))))))))))
 refine wl_pq F24 (ex_fb 1 h17_24) fun a25 u25 F25 h180_25 => ?_
 refine wl_pq F25 (ex_fag (vx := (.pointer (some ⟨g17, 1, none⟩))) (v := (.pointer (some ⟨g17, 11, none⟩))) h180_25 (by kernel_rfl)) fun a26 u26 F26 h181_26 => ?_
 obtain ⟨w1, hr1, B17_1, G1⟩ := st_run (T := 9) (o := 11) (v := (.string { data := #[50, 48, 51, 49, 45, 48, 49, 45, 48, 50, 84, 48, 51, 58, 48, 52, 58, 48, 53, 90] })) (cs' := #[(.int .i64 10), (.int .u64 0), (.string s.title), (.string s.uri), (.float .f64 (fb s.e)), (.int .i64 s.li), (.int .i64 s.off), kv, mv, (.slice none 0 0), (.bool s.disc), (.string { data := #[50, 48, 51, 49, 45, 48, 49, 45, 48, 50, 84, 48, 51, 58, 48, 52, 58, 48, 53, 90] }), (.int .i64 num)]) (fun _ => by kernel_rfl) B17_0 rfl (Nat.le_of_ble_eq_true rfl) rfl
 have B16_1 := B16_0.gk G1 (B16_0.ne_ B17_0 (by decide))
 have Bw_1 := Bw_0.gk G1 (Bw_0.ne_ B17_0 (by decide))
 have K_1 := K_0.blk hw B17_0 hg17 (by decide) G1
 have sr_1 := sr_0.gfar B17_0 (by decide) (by decide) hfar G1
 have wr_1 := wr_0.kt (Kt.of_blk B17_0 G1) (by decide)
 have ks_1 := ks_0.kt (Kt.of_blk B17_0 G1) (by decide)
 have ms_1 := ms_0.kt (Kt.of_blk B17_0 G1) (by decide)
 have kq_1 := kq_0.kt (Kt.of_blk B17_0 G1) (by decide)
 have mq_1 := mq_0.kt (Kt.of_blk B17_0 G1) (by decide)
 have sw_1 := sw_0.kt (Kt.of_blk B17_0 G1) (by decide) (by decide) (by decide)
 have nw_1 := nw_0.kt (Kt.of_blk B17_0 G1) (by decide)
 have kw_1 := kw_0.kt (Kt.of_blk B17_0 G1) (by decide)
 have mw_1 := mw_0.kt (Kt.of_blk B17_0 G1) (by decide)
 refine wl_n (ex_st h181_26 rfl hr1) ?_
 clear K_0 sr_0 wr_0 kq_0 mq_0 sw_0 nw_0 kw_0 mw_0
 change Code.wp _ _ _ _ _
 refine wp_sr ?_
 have h9_26 := u26.w (u25.w (u24.w (u23.w (u22.w (u21.w (u20.w (u19.w (u18.w (u17.w (u16.w (u15.w (u14.w (u13.w (u12.w (u11.w (u10.w (u9.w (u8.w (u7.w (u6.w (u5.w (u4.w (u3.w (u2.w (u1.w h9_0)))))))))))))))))))))))))
 refine wl_pq F26 (ex_mv h9_26) fun a27 u27 F27 h182_27 => ?_
 refine wl_cl (args := #[(.pointer (some ⟨wb, 0, none⟩))]) (R := fun v w' => v = (.pointer (some ⟨gl, ul, none⟩)) ∧ w1.grownBy w' none) (ex_cl (fun _ _ => by kernel_rfl) (arg1 h182_27)) ((last_some Bw_1 sw_1 hn (by have := hO.room; have := hO.p12; omega) hix).mono fun _ _ h => ⟨_, h.1, rfl, h.2⟩) F27.l ?_
 rintro v w2 ⟨rfl, G2⟩
 have B16_2 := B16_1.gn G2
 have B17_2 := B17_1.gn G2
 have Bw_2 := Bw_1.gn G2
 have K_2 := K_1.nw hw G2
 have sr_2 := sr_1.kt (Kt.of_none G2) (by decide) (by decide) (by decide)
 have wr_2 := wr_1.kt (Kt.of_none G2) (by decide)
 have ks_2 := ks_1.kt (Kt.of_none G2) (by decide)
 have ms_2 := ms_1.kt (Kt.of_none G2) (by decide)
 have kq_2 := kq_1.kt (Kt.of_none G2) (by decide)
 have mq_2 := mq_1.kt (Kt.of_none G2) (by decide)
 have sw_2 := sw_1.kt (Kt.of_none G2) (by decide) (by decide) (by decide)
 have nw_2 := nw_1.kt (Kt.of_none G2) (by decide)
 have kw_2 := kw_1.kt (Kt.of_none G2) (by decide)
 have mw_2 := mw_1.kt (Kt.of_none G2) (by decide)
 intro a28 u28 h183_28
 have F28 := F27.pt u28
 clear K_1 sr_1 wr_1 kq_1 mq_1 sw_1 nw_1 kw_1 mw_1
 refine wl_pq F28 (ex_bin (vy := (.pointer none)) (v := (.bool true)) h183_28 rfl (by kernel_rfl)) fun a29 u29 F29 h184_29 => ?_
 refine wl_pq F29 (ex_as h184_29) fun a30 u30 F30 h18_30 => ?_
 change Code.wp _ _ _ _ _
 refine wp_sr ?_
 refine wl_pq F30 (ex_mv h18_30) fun a31 u31 F31 h185_31 => ?_
 change Code.wp _ _ _ _ _
 refine wp_cond_true h185_31 ?_
 obtain ⟨w3, hw3⟩ : ∃ w, w = w2.drew := ⟨_, rfl⟩
 have G3 : w2.grownBy w3 none := hw3 ▸ grown_drew _
 have B16_3 := B16_2.gn G3
 have B17_3 := B17_2.gn G3
 have Bw_3 := Bw_2.gn G3
 have K_3 := K_2.nw hw G3
 have sr_3 := sr_2.kt (Kt.of_none G3) (by decide) (by decide) (by decide)
 have wr_3 := wr_2.kt (Kt.of_none G3) (by decide)
 have ks_3 := ks_2.kt (Kt.of_none G3) (by decide)
 have ms_3 := ms_2.kt (Kt.of_none G3) (by decide)
 have kq_3 := kq_2.kt (Kt.of_none G3) (by decide)
 have mq_3 := mq_2.kt (Kt.of_none G3) (by decide)
 have sw_3 := sw_2.kt (Kt.of_none G3) (by decide) (by decide) (by decide)
 have nw_3 := nw_2.kt (Kt.of_none G3) (by decide)
 have kw_3 := kw_2.kt (Kt.of_none G3) (by decide)
 have mw_3 := mw_2.kt (Kt.of_none G3) (by decide)
 refine rg_tree (S := fun w' => Blk w' g17 44 #[(.int .i64 10), (.int .u64 0), (.string s.title), (.string s.uri), (.float .f64 (fb s.e)), (.int .i64 s.li), (.int .i64 s.off), kv, mv, (.slice none 0 0), (.bool s.disc), (.string { data := #[50, 48, 51, 49, 45, 48, 49, 45, 48, 50, 84, 48, 51, 58, 48, 52, 58, 48, 53, 90] }), (.int .i64 num)]) [] 8 hw3 ⟨rfl, by decide⟩ hmix (by kernel_rfl) (by kernel_rfl) (B17_3) ?_
 clear K_2 sr_2 wr_2 kq_2 mq_2 sw_2 nw_2 kw_2 mw_2
 have h9_31 := u31.w (u30.w (u29.w (u28.w (u27.w h9_26))))
 refine tree_take (j := 0) rfl (by kernel_rfl) (by kernel_rfl) (by kernel_rfl) (fun w hw => ex_mv h9_31) (B17_3) F31.l fun a32 u32 h186_32 => ?_
 have F32 := F31.pt u32
 have h17_32 := u32.w (u31.w (u30.w (u29.w (u28.w (u27.w (u26.w (u25.w h17_24)))))))
 refine tree_take (j := 2) rfl (by kernel_rfl) (by kernel_rfl) (by kernel_rfl) (fun w hw => ex_fb 1 h17_32) (B17_3) F32.l fun a33 u33 h188_33 => ?_
 have F33 := F32.pt u33
 refine tree_take (j := 3) rfl (by kernel_rfl) (by kernel_rfl) (by kernel_rfl) (fun w hw => ex_fag (vx := (.pointer (some ⟨g17, 1, none⟩))) (v := (.pointer (some ⟨g17, 11, none⟩))) h188_33 (by kernel_rfl)) (B17_3) F33.l fun a34 u34 h189_34 => ?_
 have F34 := F33.pt u34
 refine tree_take (j := 4) rfl (by kernel_rfl) (by kernel_rfl) (by kernel_rfl) (fun w hw => ex_le (v := (.string { data := #[50, 48, 51, 49, 45, 48, 49, 45, 48, 50, 84, 48, 51, 58, 48, 52, 58, 48, 53, 90] })) h189_34 (hw.cell 11)) (B17_3) F34.l fun a35 u35 h190_35 => ?_
 have F35 := F34.pt u35
 refine tree1 (j := 1) (by kernel_rfl) ?_
 have h186_35 := u35.w (u34.w (u33.w h186_32))
 refine tk_cl (args := #[(.pointer (some ⟨wb, 0, none⟩))]) (R := fun v w' => v = (.pointer (some ⟨gl, ul, none⟩)) ∧ w3.grownBy w' none) rfl (ex_cl (fun _ _ => by kernel_rfl) (arg1 h186_35)) ((last_some Bw_3 sw_3 hn (by have := hO.room; have := hO.p12; omega) hix).mono fun _ _ h => ⟨_, h.1, rfl, h.2⟩) F35.l ?_
 rintro v w4 ⟨rfl, G4⟩
 have B16_4 := B16_3.gn G4
 have B17_4 := B17_3.gn G4
 have Bw_4 := Bw_3.gn G4
 have K_4 := K_3.nw hw G4
 have sr_4 := sr_3.kt (Kt.of_none G4) (by decide) (by decide) (by decide)
 have wr_4 := wr_3.kt (Kt.of_none G4) (by decide)
 have ks_4 := ks_3.kt (Kt.of_none G4) (by decide)
 have ms_4 := ms_3.kt (Kt.of_none G4) (by decide)
 have kq_4 := kq_3.kt (Kt.of_none G4) (by decide)
 have mq_4 := mq_3.kt (Kt.of_none G4) (by decide)
 have sw_4 := sw_3.kt (Kt.of_none G4) (by decide) (by decide) (by decide)
 have nw_4 := nw_3.kt (Kt.of_none G4) (by decide)
 have kw_4 := kw_3.kt (Kt.of_none G4) (by decide)
 have mw_4 := mw_3.kt (Kt.of_none G4) (by decide)
 refine ⟨B17_4, ?_⟩
 intro a36 u36 h187_36
 have F36 := F35.pt u36
 clear K_3 sr_3 wr_3 kq_3 mq_3 sw_3 nw_3 kw_3 mw_3
 refine tree_take (j := 5) rfl (by kernel_rfl) (by kernel_rfl) (by kernel_rfl) (fun w hw => ex_nil h187_36) (B17_4) F36.l fun a37 u37 h191_37 => ?_
 have F37 := F36.pt u37
 refine tree_take (j := 6) rfl (by kernel_rfl) (by kernel_rfl) (by kernel_rfl) (fun w hw => ex_fag (vx := (.pointer (some ⟨gl, ul, none⟩))) (v := (.pointer (some ⟨gl, ul + 8, none⟩))) h191_37 (by kernel_rfl)) (B17_4) F37.l fun a38 u38 h192_38 => ?_
 have F38 := F37.pt u38
 refine tree1 (j := 7) (by kernel_rfl) ?_
 obtain ⟨w5, hr5, sw_5, G5, ⟨cur5, hcur5⟩, hge5⟩ := sw_4.setL (T := 9) (f := 8) (j := d.segs.length - 1) (u := (.string { data := #[50, 48, 51, 49, 45, 48, 49, 45, 48, 50, 84, 48, 51, 58, 48, 52, 58, 48, 53, 90] })) (L := L) (L' := { L with date := ⟨#[50, 48, 51, 49, 45, 48, 49, 45, 48, 50, 84, 48, 51, 58, 48, 52, 58, 48, 53, 90]⟩ }) (fun _ => by kernel_rfl) hL (by decide) rfl hix (fun kp mp hk hm => ⟨kp, mp, fun k hk => by rcases k with _ | _ | _ | _ | _ | _ | _ | _ | _ | k <;> first | rfl | omega, hk, hm⟩)
 have KB5 := Kt.of_blk hcur5 G5
 have B17_5 := B17_4.kt KB5 (by decide)
 have Bw_5 := Bw_4.kt KB5 (by decide)
 have K_5 := K_4.blk hw hcur5 hge5 (by decide) G5
 have sr_5 := sr_4.kt KB5 (by decide) (by decide) (by decide)
 have wr_5 := wr_4.kt KB5 (by decide)
 have ks_5 := ks_4.kt KB5 (by decide)
 have ms_5 := ms_4.kt KB5 (by decide)
 have kq_5 := kq_4.kt KB5 (by decide)
 have mq_5 := mq_4.kt KB5 (by decide)
 have nw_5 := nw_4.kt KB5 (by decide)
 have kw_5 := kw_4.kt KB5 (by decide)
 have mw_5 := mw_4.kt KB5 (by decide)
 have h190_38 := u38.w (u37.w (u36.w h190_35))
 refine tk_n rfl (ex_st h192_38 h190_38 hr5) (B17_5) ?_
 clear sw_4 hcur5 hge5 KB5 K_4 sr_4 wr_4 kq_4 mq_4 nw_4 kw_4 mw_4
 refine tree0 (by kernel_rfl) ?_
 have htold : decide (d.segs.length ≠ 0) = true := decide_eq_true (by omega)
 have h7_38 := u38.w (u37.w (u36.w (u35.w (u34.w (u33.w (u32.w (u31.w (u30.w (u29.w (u28.w (u27.w (u26.w (u25.w (u24.w (u23.w (u22.w (u21.w (u20.w (u19.w (u18.w (u17.w (u16.w (u15.w (u14.w (u13.w (u12.w (u11.w (u10.w (u9.w (u8.w (u7.w (u6.w (u5.w (u4.w (u3.w (u2.w (u1.w h7_0)))))))))))))))))))))))))))))))))))))
 have h8_38 := u38.w (u37.w (u36.w (u35.w (u34.w (u33.w (u32.w (u31.w (u30.w (u29.w (u28.w (u27.w (u26.w (u25.w (u24.w (u23.w (u22.w (u21.w (u20.w (u19.w (u18.w (u17.w (u16.w (u15.w (u14.w (u13.w (u12.w (u11.w (u10.w (u9.w (u8.w (u7.w (u6.w (u5.w (u4.w (u3.w (u2.w (u1.w h8_0)))))))))))))))))))))))))))))))))))))
 have h48_38 := u38.w (u37.w (u36.w (u35.w (u34.w (u33.w (u32.w (u31.w (u30.w (u29.w (u28.w (u27.w (u26.w (u25.w (u24.w (u23.w (u22.w (u21.w (u20.w (u19.w (u18.w (u17.w (u16.w (u15.w (u14.w (u13.w (u12.w (u11.w (u10.w (u9.w (u8.w (u7.w (u6.w (u5.w (u4.w (u3.w (u2.w (u1.w h48_0)))))))))))))))))))))))))))))))))))))
 have h49_38 := u38.w (u37.w (u36.w (u35.w (u34.w (u33.w (u32.w (u31.w (u30.w (u29.w (u28.w (u27.w (u26.w (u25.w (u24.w (u23.w (u22.w (u21.w (u20.w (u19.w (u18.w (u17.w (u16.w (u15.w (u14.w (u13.w (u12.w (u11.w (u10.w (u9.w (u8.w (u7.w (u6.w (u5.w (u4.w (u3.w (u2.w (u1.w h49_0)))))))))))))))))))))))))))))))))))))
 have h50_38 := u38.w (u37.w (u36.w (u35.w (u34.w (u33.w (u32.w (u31.w (u30.w (u29.w (u28.w (u27.w (u26.w (u25.w (u24.w (u23.w (u22.w (u21.w (u20.w (u19.w (u18.w (u17.w (u16.w (u15.w (u14.w (u13.w (u12.w (u11.w (u10.w (u9.w (u8.w (u7.w (u6.w (u5.w (u4.w (u3.w (u2.w (u1.w h50_0)))))))))))))))))))))))))))))))))))))
 have h9_38 := u38.w (u37.w (u36.w (u35.w (u34.w (u33.w (u32.w h9_31))))))
 have h10_38 := u38.w (u37.w (u36.w (u35.w (u34.w (u33.w (u32.w (u31.w (u30.w (u29.w (u28.w (u27.w (u26.w (u25.w (u24.w (u23.w (u22.w (u21.w (u20.w (u19.w (u18.w (u17.w (u16.w (u15.w (u14.w (u13.w (u12.w (u11.w (u10.w (u9.w (u8.w (u7.w (u6.w (u5.w (u4.w (u3.w (u2.w (u1.w h10_0)))))))))))))))))))))))))))))))))))))
 have h11_38 := u38.w (u37.w (u36.w (u35.w (u34.w (u33.w (u32.w (u31.w (u30.w (u29.w (u28.w (u27.w (u26.w (u25.w (u24.w (u23.w (u22.w (u21.w (u20.w (u19.w (u18.w (u17.w (u16.w (u15.w (u14.w (u13.w (u12.w (u11.w (u10.w (u9.w (u8.w (u7.w (u6.w (u5.w (u4.w (u3.w (u2.w (u1.w h11_0)))))))))))))))))))))))))))))))))))))
 have h17_38 := u38.w (u37.w (u36.w (u35.w (u34.w (u33.w h17_32)))))
 have h18_38 := u38.w (u37.w (u36.w (u35.w (u34.w (u33.w (u32.w (u31.w h18_30)))))))
 exact hR ⟨10, { s with date := ⟨#[50, 48, 51, 49, 45, 48, 49, 45, 48, 50, 84, 48, 51, 58, 48, 52, 58, 48, 53, 90]⟩ }, num⟩ true _ _ ⟨F38, h7_38, h8_38, h48_38, h49_38, h50_38, h9_38, h10_38, h11_38, h17_38, h18_38, K_5, (by show WinS _ _ _ (d.dateL ⟨#[50, 48, 51, 49, 45, 48, 49, 45, 48, 50, 84, 48, 51, 58, 48, 52, 58, 48, 53, 90]⟩); unfold WinD.dateL; rw [if_neg (by omega), WinD.upd_some hL]; exact ⟨⟨_, _, _, _, Bw_5, kw_5, mw_5, sw_5, nw_5⟩, hwb, K_5.le hw⟩), sr_5, wr_5, ⟨_, _, B17_5, ks_5, ms_5⟩, ⟨by simp, (ok.date (Nat.le_of_ble_eq_true rfl)), hnum, (fun h => by simp at h), (fun h => by simp at h)⟩, htold.symm⟩
theorem sw_11 {w00 : World} {N0 wb g16 g17 h k : Nat} {d : WinD} {sv wv : Value} {xs : List StepD} {tl : List Bool} {c7 c8 c48 c49 c50 : Value} {num : Nat} {s : SegD} {kp mp : Option Nat} {kv mv : Value} {a0 : Act} {w0 : World} {R : Exit → Act → World → Prop} (hO : d.Ok k) (hk : k < 900) (hJ : PrJ w00 N0 wb g16 g17 h d sv wv xs tl c7 c8 c48 c49 c50 11 num s kp mp kv mv a0 w0) (hR : ∀ x t a w, SwJ w00 N0 wb g17 d sv wv xs tl c7 c8 c48 c49 c50 x t a w → R .normal a w) : (cat [1, 1, 1, 1, 1, 1, 1, 0, 1, 0, 0, 1, 1, 0, 0, 1, 1, 1, 1, 1, 1, 0, 1] fsB).wp Tryd.prog R a0 w0 := by
 obtain ⟨F0, h7_0, h8_0, h48_0, h49_0, h50_0, h9_0, h10_0, h11_0, h14_0, h15_0, h16_0, h17_0, h18_0, h72_0, K_0, H_0, sr_0, wr_0, B16_0, B17_0, ks_0, ms_0, kq_0, mq_0, ok, hnum, hh, hg16, hg17, hw, hfar⟩ := hJ
 have h14_0 : a0.tmps.getD 14 undef = (.int .i64 11) := h14_0
 have h72_0 : a0.tmps.getD 72 undef = (.int .i64 11) := h72_0
 have B17_0 : Blk w0 g17 44 #[(.int .i64 11), (.int .u64 0), (.string s.title), (.string s.uri), (.float .f64 (fb s.e)), (.int .i64 s.li), (.int .i64 s.off), kv, mv, (.slice none 0 0), (.bool s.disc), (.string s.date), (.int .i64 num)] := B17_0
 change Code.wp _ (Code.block _ _) _ _ _
 refine wp_block ?_
 refine wp_sr ?_
 refine wl_pq F0 (ex_bin (vy := (.int .i64 0)) (v := (.bool false)) h72_0 rfl (by kernel_rfl)) fun a1 u1 F1 h74_1 => ?_
 refine wl_pq F1 (ex_as h74_1) fun a2 u2 F2 h73_2 => ?_
 change Code.wp _ _ _ _ _
 refine wp_cond_false h73_2 ?_
 refine wp_sr ?_
 refine wl_pq F2 (ex_bin (vy := (.int .i64 1)) (v := (.bool false)) (u2.w (u1.w h72_0)) rfl (by kernel_rfl)) fun a3 u3 F3 h79_3 => ?_
 refine wl_pq F3 (ex_as h79_3) fun a4 u4 F4 h78_4 => ?_
 change Code.wp _ _ _ _ _
 refine wp_cond_false h78_4 ?_
 refine wp_sr ?_
 have h72_4 := u4.w (u3.w (u2.w (u1.w h72_0)))
 refine wl_pq F4 (ex_bin (vy := (.int .i64 2)) (v := (.bool false)) h72_4 rfl (by kernel_rfl)) fun a5 u5 F5 h83_5 => ?_
 refine wl_pq F5 (ex_as h83_5) fun a6 u6 F6 h82_6 => ?_
 change Code.wp _ _ _ _ _
 refine wp_cond_false h82_6 ?_
 refine wp_sr ?_
 refine wl_pq F6 (ex_bin (vy := (.int .i64 3)) (v := (.bool false)) (u6.w (u5.w h72_4)) rfl (by kernel_rfl)) fun a7 u7 F7 h94_7 => ?_
 refine wl_pq F7 (ex_as h94_7) fun a8 u8 F8 h93_8 => ?_
 change Code.wp _ _ _ _ _
 refine wp_cond_false h93_8 ?_
 refine wp_sr ?_
 have h72_8 := u8.w (u7.w (u6.w (u5.w h72_4)))
 refine wl_pq F8 (ex_bin (vy := (.int .i64 4)) (v := (.bool false)) h72_8 rfl (by kernel_rfl)) fun a9 u9 F9 h99_9 => ?_
 refine wl_pq F9 (ex_as h99_9) fun a10 u10 F10 h98_10 => ?_
 change Code.wp _ _ _ _ _
 refine wp_cond_false h98_10 ?_
 refine wp_seq ?_
 refine wp_sr ?_
 refine wl_pq F10 (ex_bin (vy := (.int .i64 5)) (v := (.bool false)) (u10.w (u9.w h72_8)) rfl (by kernel_rfl)) fun a11 u11 F11 h114_11 => ?_
 refine wl_pq F11 (ex_as h114_11) fun a12 u12 F12 h113_12 => ?_
 change Code.wp _ _ _ _ _
 refine wp_cond_false h113_12 ?_
 refine rg_list ?_
 have h72_12 := u12.w (u11.w (u10.w (u9.w h72_8)))
 refine wl_pq F12 (ex_bin (vy := (.int .i64 11)) (v := (.bool true)) h72_12 rfl (by kernel_rfl)) fun a13 u13 F13 h115_13 => ?_
 refine wl_pq F13 (ex_as h115_13) fun a14 u14 F14 h113_14 => ?_
 change Code.wp _ _ _ _ _
 refine wp_cond_true h113_14 ?_
 refine wp_sr ?_
 have h15_14 := u14.w (u13.w (u12.w (u11.w (u10.w (u9.w (u8.w (u7.w (u6.w (u5.w (u4.w (u3.w (u2.w (u1.w h15_0)))))))))))))
 refine wl_pq F14 (ex_mv h15_14) fun a15 u15 F15 h116_15 => ?_
 refine wl_pq F15 (ex_bin (vy := (.int .u32 2)) (v := (.int .u32 (h % 2 : Nat))) h116_15 rfl (uu_rem h 2 (by decide) _)) fun a16 u16 F16 h117_16 => ?_
 refine wl_pq F16 (ex_bin (vy := (.int .u32 1)) (v := (.int .u32 ((h % 2 : Nat) + 1 : Nat))) h117_16 rfl (uu_add (h % 2 : Nat) 1 (by omega) _)) fun a17 u17 F17 h118_17 => ?_
 refine wl_cl (args := #[(.int .u32 ((h % 2 : Nat) + 1 : Nat))]) (R := fun v w' => ∃ p k, v = pt p ∧ Blk w' p 56 (keyC k) ∧ k.Ok ∧ KV k ∧ w0.grownBy w' none) (ex_cl (fun _ _ => by kernel_rfl) (arg1 h118_17)) ((keyOf_12 ((h % 2 : Nat) + 1 : Nat) (by omega) (by omega) (by omega) _).mono fun _ _ ⟨p, k, h, r⟩ => ⟨_, h, p, k, rfl, r⟩) F17.l ?_
 rintro v w1 ⟨pk, q, rfl, Bk_1, hq, hv, G1⟩
 have B16_1 := B16_0.gn G1
 have B17_1 := B17_0.gn G1
 have K_1 := K_0.nw hw G1
 have H_1 := H_0.kt (Kt.of_none G1) (by decide)
 have sr_1 := sr_0.kt (Kt.of_none G1) (by decide) (by decide) (by decide)
 have wr_1 := wr_0.kt (Kt.of_none G1) (by decide)
 have ks_1 := ks_0.kt (Kt.of_none G1) (by decide)
 have ms_1 := ms_0.kt (Kt.of_none G1) (by decide)
 have kq_1 := kq_0.kt (Kt.of_none G1) (by decide)
 have mq_1 := mq_0.kt (Kt.of_none G1) (by decide)
 intro a18 u18 h119_18
 have F18 := F17.pt u18
 clear K_0 H_0 sr_0 wr_0 kq_0 mq_0
 refine wl_pq F18 (ex_as h119_18) fun a19 u19 F19 h19_19 => ?_
 change Code.wp _ _ _ _ _
 refine wp_sr ?_
 refine wl_pq F19 (ex_mv h19_19) fun a20 u20 F20 h120_20 => ?_
 refine wl_cl (args := #[(.pointer (some ⟨pk, 0, none⟩))]) (R := fun v w' => KeySl w' v (some q) ∧ w1.grownBy w' none) (ex_cl (fun _ _ => by kernel_rfl) (arg1 h120_20)) ((toKeys_any (kp := some pk) (.mk Bk_1 hq)).mono fun _ _ h => h) F20.l ?_
 rintro kv2 w2 ⟨ks_2, G2⟩
 have B16_2 := B16_1.gn G2
 have B17_2 := B17_1.gn G2
 have Bk_2 := Bk_1.gn G2
 have K_2 := K_1.nw hw G2
 have H_2 := H_1.kt (Kt.of_none G2) (by decide)
 have sr_2 := sr_1.kt (Kt.of_none G2) (by decide) (by decide) (by decide)
 have wr_2 := wr_1.kt (Kt.of_none G2) (by decide)
 have ms_2 := ms_1.kt (Kt.of_none G2) (by decide)
 have kq_2 := kq_1.kt (Kt.of_none G2) (by decide)
 have mq_2 := mq_1.kt (Kt.of_none G2) (by decide)
 obtain ⟨k2a, k2n, k2c, rfl⟩ := ks_2.shape
 intro a21 u21 h121_21
 have F21 := F20.pt u21
 clear K_1 H_1 sr_1 wr_1 kq_1 mq_1
 have h17_21 := u21.w (u20.w (u19.w (u18.w (u17.w (u16.w (u15.w (u14.w (u13.w (u12.w (u11.w (u10.w (u9.w (u8.w (u7.w (u6.w (u5.w (u4.w (u3.w (u2.w (u1.w h17_0))))))))))))))))))))
 refine wl_pq F21 (ex_fb 1 h17_21) fun a22 u22 F22 h122_22 => ?_
 refine wl_pq F22 (ex_fag (vx := (.pointer (some ⟨g17, 1, none⟩))) (v := (.pointer (some ⟨g17, 7, none⟩))) h122_22 (by kernel_rfl)) fun a23 u23 F23 h123_23 => ?_
 obtain ⟨w3, hr3, B17_3, G3⟩ := st_run (T := 36) (o := 7) (v := (.slice k2a k2n k2c)) (cs' := #[(.int .i64 11), (.int .u64 0), (.string s.title), (.string s.uri), (.float .f64 (fb s.e)), (.int .i64 s.li), (.int .i64 s.off), (.slice k2a k2n k2c), mv, (.slice none 0 0), (.bool s.disc), (.string s.date), (.int .i64 num)]) (fun _ => by kernel_rfl) B17_2 rfl (Nat.le_of_ble_eq_true rfl) rfl
 have B16_3 := B16_2.gk G3 (B16_2.ne_ B17_2 (by decide))
 have Bk_3 := Bk_2.gk G3 (Bk_2.ne_ B17_2 (by decide))
 have K_3 := K_2.blk hw B17_2 hg17 (by decide) G3
 have H_3 := H_2.kt (Kt.of_blk B17_2 G3) (by decide)
 have sr_3 := sr_2.gfar B17_2 (by decide) (by decide) hfar G3
 have wr_3 := wr_2.kt (Kt.of_blk B17_2 G3) (by decide)
 have ms_3 := ms_2.kt (Kt.of_blk B17_2 G3) (by decide)
 have kq_3 := kq_2.kt (Kt.of_blk B17_2 G3) (by decide)
 have mq_3 := mq_2.kt (Kt.of_blk B17_2 G3) (by decide)
 have ks_3 := ks_2.kt (Kt.of_blk B17_2 G3) (by decide)
 refine wl_n (ex_st h123_23 (u23.w (u22.w h121_21)) hr3) ?_
 clear K_2 H_2 sr_2 wr_2 kq_2 mq_2
 change Code.wp _ _ _ _ _
 refine rg_list ?_
 have h9_23 := u23.w (u22.w (u21.w (u20.w (u19.w (u18.w (u17.w (u16.w (u15.w (u14.w (u13.w (u12.w (u11.w (u10.w (u9.w (u8.w (u7.w (u6.w (u5.w (u4.w (u3.w (u2.w (u1.w h9_0))))))))))))))))))))))
 refine wl_pq F23 (ex_mv h9_23) fun a24 u24 F24 h124_24 => ?_
 have h19_24 := u24.w (u23.w (u22.w (u21.w (u20.w h19_19))))
 refine wl_pq F24 (ex_mv h19_24) fun a25 u25 F25 h125_25 => ?_
 refine wl_pq F25 (ex_nil h125_25) fun a26 u26 F26 h126_26 => ?_
 refine wl_pq F26 (ex_lda h126_26 (ld_agg (n := 5) (xs := #[(.string q.me), (.string q.uri), (.string q.iv), (.string q.fo), (.string q.ve)]) (fun _ => by kernel_rfl) (fun _ => by kernel_rfl) Bk_3 rfl (fun _ _ => by rw [Nat.zero_add] <;> rfl))) fun a27 u27 F27 (h127_27 : a27.tmps.getD 127 undef = (.agg #[(.string q.me), (.string q.uri), (.string q.iv), (.string q.fo), (.string q.ve)])) => ?_
 have h14_27 := u27.w (u26.w (u25.w (u24.w (u23.w (u22.w (u21.w (u20.w (u19.w (u18.w (u17.w (u16.w (u15.w (u14.w (u13.w (u12.w (u11.w (u10.w (u9.w (u8.w (u7.w (u6.w (u5.w (u4.w (u3.w (u2.w (u1.w h14_0))))))))))))))))))))))))))
 refine wl_pq F27 (ex_mv h14_27) fun a28 u28 F28 h128_28 => ?_
 refine wl_pq F28 (ex_bin (vy := (.int .i64 11)) (v := (.bool true)) h128_28 rfl (by kernel_rfl)) fun a29 u29 F29 h129_29 => ?_
 have h124_29 := u29.w (u28.w (u27.w (u26.w (u25.w h124_24))))
 refine wl_cl (args := #[(pt wb), (.agg #[(.string q.me), (.string q.uri), (.string q.iv), (.string q.fo), (.string q.ve)]), (.bool true)]) (R := fun v w' => v = (.bool true) ∧ WinS w' N0 wb (d.lockA q) ∧ Kt N0 DS w3 w') (ex_cl (fun _ _ => by kernel_rfl) (arg3 h124_29 (u29.w (u28.w h127_27)) h129_29)) ((lock_every hO H_3 hq hv).mono fun _ _ h => ⟨_, h.1, rfl, h.2⟩) F29.l ?_
 rintro v w4 ⟨rfl, H_4, KK⟩
 have B17_4 := B17_3.kt KK (by decide)
 have Bk_4 := Bk_3.kt KK (by decide)
 have K_4 := K_3.trans (KK.sub (by decide))
 have sr_4 := sr_3.kt KK (by decide) (by decide) (by decide)
 have wr_4 := wr_3.kt KK (by decide)
 have ms_4 := ms_3.kt KK (by decide)
 have kq_4 := kq_3.kt KK (by decide)
 have mq_4 := mq_3.kt KK (by decide)
 have ks_4 := ks_3.kt KK (by decide)
 intro a30 u30 h130_30
 have F30 := F29.pt u30
 clear K_3 H_3 sr_3 wr_3 kq_3 mq_3 KK
 refine wl_pq F30 (ex_as h130_30) fun a31 u31 F31 h18_31 => ?_
 have h7_31 := u31.w (u30.w (u29.w (u28.w (u27.w (u26.w (u25.w (u24.w (u23.w (u22.w (u21.w (u20.w (u19.w (u18.w (u17.w (u16.w (u15.w (u14.w (u13.w (u12.w (u11.w (u10.w (u9.w (u8.w (u7.w (u6.w (u5.w (u4.w (u3.w (u2.w (u1.w h7_0))))))))))))))))))))))))))))))
 have h8_31 := u31.w (u30.w (u29.w (u28.w (u27.w (u26.w (u25.w (u24.w (u23.w (u22.w (u21.w (u20.w (u19.w (u18.w (u17.w (u16.w (u15.w (u14.w (u13.w (u12.w (u11.w (u10.w (u9.w (u8.w (u7.w (u6.w (u5.w (u4.w (u3.w (u2.w (u1.w h8_0))))))))))))))))))))))))))))))
 have h48_31 := u31.w (u30.w (u29.w (u28.w (u27.w (u26.w (u25.w (u24.w (u23.w (u22.w (u21.w (u20.w (u19.w (u18.w (u17.w (u16.w (u15.w (u14.w (u13.w (u12.w (u11.w (u10.w (u9.w (u8.w (u7.w (u6.w (u5.w (u4.w (u3.w (u2.w (u1.w h48_0))))))))))))))))))))))))))))))
 have h49_31 := u31.w (u30.w (u29.w (u28.w (u27.w (u26.w (u25.w (u24.w (u23.w (u22.w (u21.w (u20.w (u19.w (u18.w (u17.w (u16.w (u15.w (u14.w (u13.w (u12.w (u11.w (u10.w (u9.w (u8.w (u7.w (u6.w (u5.w (u4.w (u3.w (u2.w (u1.w h49_0))))))))))))))))))))))))))))))
 have h50_31 := u31.w (u30.w (u29.w (u28.w (u27.w (u26.w (u25.w (u24.w (u23.w (u22.w (u21.w (u20.w (u19.w (u18.w (u17.w (u16.w (u15.w (u14.w (u13.w (u12.w (u11.w (u10.w (u9.w (u8.w (u7.w (u6.w (u5.w (u4.w (u3.w (u2.w (u1.w h50_0))))))))))))))))))))))))))))))
 have h9_31 := u31.w (u30.w (u29.w (u28.w (u27.w (u26.w (u25.w (u24.w h9_23)))))))
 have h10_31 := u31.w (u30.w (u29.w (u28.w (u27.w (u26.w (u25.w (u24.w (u23.w (u22.w (u21.w (u20.w (u19.w (u18.w (u17.w (u16.w (u15.w (u14.w (u13.w (u12.w (u11.w (u10.w (u9.w (u8.w (u7.w (u6.w (u5.w (u4.w (u3.w (u2.w (u1.w h10_0))))))))))))))))))))))))))))))
 have h11_31 := u31.w (u30.w (u29.w (u28.w (u27.w (u26.w (u25.w (u24.w (u23.w (u22.w (u21.w (u20.w (u19.w (u18.w (u17.w (u16.w (u15.w (u14.w (u13.w (u12.w (u11.w (u10.w (u9.w (u8.w (u7.w (u6.w (u5.w (u4.w (u3.w (u2.w (u1.w h11_0))))))))))))))))))))))))))))))
 have h17_31 := u31.w (u30.w (u29.w (u28.w (u27.w (u26.w (u25.w (u24.w (u23.w (u22.w h17_21)))))))))
 exact hR ⟨11, { s with key := some q }, num⟩ true _ _ ⟨F31, h7_31, h8_31, h48_31, h49_31, h50_31, h9_31, h10_31, h11_31, h17_31, h18_31, K_4, H_4, sr_4, wr_4, ⟨_, _, B17_4, ks_4, ms_4⟩, ⟨by simp, ⟨⟨ok.1.title, ok.1.uri, ok.1.date, ok.1.li, ok.1.off, fun _ e => by cases e; exact hq, ok.1.map⟩, ok.2⟩, hnum, (fun _ => ⟨q, rfl, hv⟩), (fun h => by simp at h)⟩, rfl⟩
theorem sw_12 {w00 : World} {N0 wb g16 g17 h k : Nat} {d : WinD} {sv wv : Value} {xs : List StepD} {tl : List Bool} {c7 c8 c48 c49 c50 : Value} {num : Nat} {s : SegD} {kp mp : Option Nat} {kv mv : Value} {a0 : Act} {w0 : World} {R : Exit → Act → World → Prop} (hO : d.Ok k) (hk : k < 900) (hJ : PrJ w00 N0 wb g16 g17 h d sv wv xs tl c7 c8 c48 c49 c50 12 num s kp mp kv mv a0 w0) (hR : ∀ x t a w, SwJ w00 N0 wb g17 d sv wv xs tl c7 c8 c48 c49 c50 x t a w → R .normal a w) : (cat [1, 1, 1, 1, 1, 1, 1, 0, 1, 0, 0, 1, 1, 0, 0, 1, 1, 1, 1, 1, 1, 0, 1] fsB).wp Tryd.prog R a0 w0 := by
 obtain ⟨F0, h7_0, h8_0, h48_0, h49_0, h50_0, h9_0, h10_0, h11_0, h14_0, h15_0, h16_0, h17_0, h18_0, h72_0, K_0, H_0, sr_0, wr_0, B16_0, B17_0, ks_0, ms_0, kq_0, mq_0, ok, hnum, hh, hg16, hg17, hw, hfar⟩ := hJ
 have h14_0 : a0.tmps.getD 14 undef = (.int .i64 12) := h14_0
 have h72_0 : a0.tmps.getD 72 undef = (.int .i64 12) := h72_0
 have B17_0 : Blk w0 g17 44 #[(.int .i64 12), (.int .u64 0), (.string s.title), (.string s.uri), (.float .f64 (fb s.e)), (.int .i64 s.li), (.int .i64 s.off), kv, mv, (.slice none 0 0), (.bool s.disc), (.string s.date), (.int .i64 num)] := B17_0
 change Code.wp _ (Code.block _ _) _ _ _
 refine wp_block ?_
 refine wp_sr ?_
 refine wl_pq F0 (ex_bin (vy := (.int .i64 0)) (v := (.bool false)) h72_0 rfl (by kernel_rfl)) fun a1 u1 F1 h74_1 => ?_
 refine wl_pq F1 (ex_as h74_1) fun a2 u2 F2 h73_2 => ?_
 change Code.wp _ _ _ _ _
 refine wp_cond_false h73_2 ?_
 refine wp_sr ?_
 refine wl_pq F2 (ex_bin (vy := (.int .i64 1)) (v := (.bool false)) (u2.w (u1.w h72_0)) rfl (by kernel_rfl)) fun a3 u3 F3 h79_3 => ?_
 refine wl_pq F3 (ex_as h79_3) fun a4 u4 F4 h78_4 => ?_
 change Code.wp _ _ _ _ _
 refine wp_cond_false h78_4 ?_
 refine wp_sr ?_
 have h72_4 := u4.w (u3.w (u2.w (u1.w h72_0)))
 refine wl_pq F4 (ex_bin (vy := (.int .i64 2)) (v := (.bool false)) h72_4 rfl (by kernel_rfl)) fun a5 u5 F5 h83_5 => ?_
 refine wl_pq F5 (ex_as h83_5) fun a6 u6 F6 h82_6 => ?_
 change Code.wp _ _ _ _ _
 refine wp_cond_false h82_6 ?_
 refine wp_sr ?_
 refine wl_pq F6 (ex_bin (vy := (.int .i64 3)) (v := (.bool false)) (u6.w (u5.w h72_4)) rfl (by kernel_rfl)) fun a7 u7 F7 h94_7 => ?_
 refine wl_pq F7 (ex_as h94_7) fun a8 u8 F8 h93_8 => ?_
 change Code.wp _ _ _ _ _
 refine wp_cond_false h93_8 ?_
 refine wp_sr ?_
 have h72_8 := u8.w (u7.w (u6.w (u5.w h72_4)))
 refine wl_pq F8 (ex_bin (vy := (.int .i64 4)) (v := (.bool false)) h72_8 rfl (by kernel_rfl)) fun a9 u9 F9 h99_9 => ?_
 refine wl_pq F9 (ex_as h99_9) fun a10 u10 F10 h98_10 => ?_
 change Code.wp _ _ _ _ _
 refine wp_cond_false h98_10 ?_
 refine wp_seq ?_
 refine wp_sr ?_
 refine wl_pq F10 (ex_bin (vy := (.int .i64 5)) (v := (.bool false)) (u10.w (u9.w h72_8)) rfl (by kernel_rfl)) fun a11 u11 F11 h114_11 => ?_
 refine wl_pq F11 (ex_as h114_11) fun a12 u12 F12 h113_12 => ?_
 change Code.wp _ _ _ _ _
 refine wp_cond_false h113_12 ?_
 refine rg_list ?_
 have h72_12 := u12.w (u11.w (u10.w (u9.w h72_8)))
 refine wl_pq F12 (ex_bin (vy := (.int .i64 11)) (v := (.bool false)) h72_12 rfl (by kernel_rfl)) fun a13 u13 F13 h115_13 => ?_
 refine wl_pq F13 (ex_as h115_13) fun a14 u14 F14 h113_14 => ?_
 change Code.wp _ _ _ _ _
 refine wp_cond_false h113_14 ?_
 refine wp_seq ?_
 refine wp_sr ?_
 refine wl_pq F14 (ex_bin (vy := (.int .i64 6)) (v := (.bool false)) (u14.w (u13.w h72_12)) rfl (by kernel_rfl)) fun a15 u15 F15 h132_15 => ?_
 refine wl_pq F15 (ex_as h132_15) fun a16 u16 F16 h131_16 => ?_
 change Code.wp _ _ _ _ _
 refine wp_cond_false h131_16 ?_
 refine rg_list ?_
 have h72_16 := u16.w (u15.w (u14.w (u13.w h72_12)))
 refine wl_pq F16 (ex_bin (vy := (.int .i64 12)) (v := (.bool true)) h72_16 rfl (by kernel_rfl)) fun a17 u17 F17 h133_17 => ?_
 refine wl_pq F17 (ex_as h133_17) fun a18 u18 F18 h131_18 => ?_
 change Code.wp _ _ _ _ _
 refine wp_cond_true h131_18 ?_
 refine wp_sr ?_
 have h15_18 := u18.w (u17.w (u16.w (u15.w (u14.w (u13.w (u12.w (u11.w (u10.w (u9.w (u8.w (u7.w (u6.w (u5.w (u4.w (u3.w (u2.w (u1.w h15_0)))))))))))))))))
 refine wl_pq F18 (ex_mv h15_18) fun a19 u19 F19 h134_19 => ?_
 refine wl_pq F19 (ex_bin (vy := (.int .u32 2)) (v := (.int .u32 (h % 2 : Nat))) h134_19 rfl (uu_rem h 2 (by decide) _)) fun a20 u20 F20 h135_20 => ?_
 refine wl_cl (args := #[(.int .u32 (h % 2 : Nat))]) (R := fun v w' => ∃ kp m, v = pto kp ∧ SMap w' kp m ∧ w0.grownBy w' none ∧ (((h % 2 : Nat) : Int) % 3 < 2 → kp ≠ none)) (ex_cl (fun _ _ => by kernel_rfl) (arg1 h135_20)) ((mapOf_any (h % 2 : Nat) (by omega) (by omega) _).mono fun _ _ ⟨p, k, h, r⟩ => ⟨_, h, p, k, rfl, r⟩) F20.l ?_
 rintro v w1 ⟨kq2, mm, rfl, hsm, G1, hne⟩
 have B16_1 := B16_0.gn G1
 have B17_1 := B17_0.gn G1
 have K_1 := K_0.nw hw G1
 have H_1 := H_0.kt (Kt.of_none G1) (by decide)
 have sr_1 := sr_0.kt (Kt.of_none G1) (by decide) (by decide) (by decide)
 have wr_1 := wr_0.kt (Kt.of_none G1) (by decide)
 have ks_1 := ks_0.kt (Kt.of_none G1) (by decide)
 have ms_1 := ms_0.kt (Kt.of_none G1) (by decide)
 have kq_1 := kq_0.kt (Kt.of_none G1) (by decide)
 have mq_1 := mq_0.kt (Kt.of_none G1) (by decide)
 obtain ⟨pk, q, rfl, hkm, Bk_1, hq⟩ : ∃ p q, kq2 = some p ∧ mm = some q ∧ Blk w1 p 61 (mapC q) ∧ q.Ok := by
   cases hsm with
   | nil => exact absurd rfl (hne (by omega))
   | mk h ok => exact ⟨_, _, rfl, rfl, h, ok⟩
 intro a21 u21 h136_21
 have F21 := F20.pt u21
 clear K_0 H_0 sr_0 wr_0 kq_0 mq_0
 refine wl_pq F21 (ex_as h136_21) fun a22 u22 F22 h20_22 => ?_
 change Code.wp _ _ _ _ _
 refine wp_sr ?_
 refine wl_pq F22 (ex_mv h20_22) fun a23 u23 F23 h137_23 => ?_
 refine wl_cl (args := #[(.pointer (some ⟨pk, 0, none⟩))]) (R := fun v w' => MapSl w' v (some q) ∧ w1.grownBy w' none) (ex_cl (fun _ _ => by kernel_rfl) (arg1 h137_23)) ((toMaps_any (kp := some pk) (.mk Bk_1 hq)).mono fun _ _ h => h) F23.l ?_
 rintro kv2 w2 ⟨ms_2, G2⟩
 have B16_2 := B16_1.gn G2
 have B17_2 := B17_1.gn G2
 have Bk_2 := Bk_1.gn G2
 have K_2 := K_1.nw hw G2
 have H_2 := H_1.kt (Kt.of_none G2) (by decide)
 have sr_2 := sr_1.kt (Kt.of_none G2) (by decide) (by decide) (by decide)
 have wr_2 := wr_1.kt (Kt.of_none G2) (by decide)
 have ks_2 := ks_1.kt (Kt.of_none G2) (by decide)
 have kq_2 := kq_1.kt (Kt.of_none G2) (by decide)
 have mq_2 := mq_1.kt (Kt.of_none G2) (by decide)
 obtain ⟨k2a, k2n, k2c, rfl⟩ := ms_2.shape
 intro a24 u24 h138_24
 have F24 := F23.pt u24
 clear K_1 H_1 sr_1 wr_1 kq_1 mq_1
 have h17_24 := u24.w (u23.w (u22.w (u21.w (u20.w (u19.w (u18.w (u17.w (u16.w (u15.w (u14.w (u13.w (u12.w (u11.w (u10.w (u9.w (u8.w (u7.w (u6.w (u5.w (u4.w (u3.w (u2.w (u1.w h17_0)))))))))))))))))))))))
 refine wl_pq F24 (ex_fb 1 h17_24) fun a25 u25 F25 h139_25 => ?_
 refine wl_pq F25 (ex_fag (vx := (.pointer (some ⟨g17, 1, none⟩))) (v := (.pointer (some ⟨g17, 8, none⟩))) h139_25 (by kernel_rfl)) fun a26 u26 F26 h140_26 => ?_
 obtain ⟨w3, hr3, B17_3, G3⟩ := st_run (T := 37) (o := 8) (v := (.slice k2a k2n k2c)) (cs' := #[(.int .i64 12), (.int .u64 0), (.string s.title), (.string s.uri), (.float .f64 (fb s.e)), (.int .i64 s.li), (.int .i64 s.off), kv, (.slice k2a k2n k2c), (.slice none 0 0), (.bool s.disc), (.string s.date), (.int .i64 num)]) (fun _ => by kernel_rfl) B17_2 rfl (Nat.le_of_ble_eq_true rfl) rfl
 have B16_3 := B16_2.gk G3 (B16_2.ne_ B17_2 (by decide))
 have Bk_3 := Bk_2.gk G3 (Bk_2.ne_ B17_2 (by decide))
 have K_3 := K_2.blk hw B17_2 hg17 (by decide) G3
 have H_3 := H_2.kt (Kt.of_blk B17_2 G3) (by decide)
 have sr_3 := sr_2.gfar B17_2 (by decide) (by decide) hfar G3
 have wr_3 := wr_2.kt (Kt.of_blk B17_2 G3) (by decide)
 have ks_3 := ks_2.kt (Kt.of_blk B17_2 G3) (by decide)
 have kq_3 := kq_2.kt (Kt.of_blk B17_2 G3) (by decide)
 have mq_3 := mq_2.kt (Kt.of_blk B17_2 G3) (by decide)
 have ms_3 := ms_2.kt (Kt.of_blk B17_2 G3) (by decide)
 refine wl_n (ex_st h140_26 (u26.w (u25.w h138_24)) hr3) ?_
 clear K_2 H_2 sr_2 wr_2 kq_2 mq_2
 change Code.wp _ _ _ _ _
 refine rg_list ?_
 have h9_26 := u26.w (u25.w (u24.w (u23.w (u22.w (u21.w (u20.w (u19.w (u18.w (u17.w (u16.w (u15.w (u14.w (u13.w (u12.w (u11.w (u10.w (u9.w (u8.w (u7.w (u6.w (u5.w (u4.w (u3.w (u2.w (u1.w h9_0)))))))))))))))))))))))))
 refine wl_pq F26 (ex_mv h9_26) fun a27 u27 F27 h141_27 => ?_
 have h20_27 := u27.w (u26.w (u25.w (u24.w (u23.w h20_22))))
 refine wl_pq F27 (ex_mv h20_27) fun a28 u28 F28 h142_28 => ?_
 refine wl_pq F28 (ex_nil h142_28) fun a29 u29 F29 h143_29 => ?_
 refine wl_pq F29 (ex_lda h143_29 (ld_agg (n := 3) (xs := #[(.string q.uri), (.int .i64 q.li), (.int .i64 q.off)]) (fun _ => by kernel_rfl) (fun _ => by kernel_rfl) Bk_3 rfl (fun _ _ => by rw [Nat.zero_add] <;> rfl))) fun a30 u30 F30 (h144_30 : a30.tmps.getD 144 undef = (.agg #[(.string q.uri), (.int .i64 q.li), (.int .i64 q.off)])) => ?_
 have h14_30 := u30.w (u29.w (u28.w (u27.w (u26.w (u25.w (u24.w (u23.w (u22.w (u21.w (u20.w (u19.w (u18.w (u17.w (u16.w (u15.w (u14.w (u13.w (u12.w (u11.w (u10.w (u9.w (u8.w (u7.w (u6.w (u5.w (u4.w (u3.w (u2.w (u1.w h14_0)))))))))))))))))))))))))))))
 refine wl_pq F30 (ex_mv h14_30) fun a31 u31 F31 h145_31 => ?_
 refine wl_pq F31 (ex_bin (vy := (.int .i64 12)) (v := (.bool true)) h145_31 rfl (by kernel_rfl)) fun a32 u32 F32 h146_32 => ?_
 have h141_32 := u32.w (u31.w (u30.w (u29.w (u28.w h141_27))))
 refine wl_cl (args := #[(pt wb), (.agg #[(.string q.uri), (.int .i64 q.li), (.int .i64 q.off)]), (.bool true)]) (R := fun v w' => v = (.bool true) ∧ WinS w' N0 wb (d.leadA q) ∧ Kt N0 DS w3 w') (ex_cl (fun _ _ => by kernel_rfl) (arg3 h141_32 (u32.w (u31.w h144_30)) h146_32)) ((lead_all hO H_3 hq).mono fun _ _ h => ⟨_, h.1, rfl, h.2⟩) F32.l ?_
 rintro v w4 ⟨rfl, H_4, KK⟩
 have B17_4 := B17_3.kt KK (by decide)
 have Bk_4 := Bk_3.kt KK (by decide)
 have K_4 := K_3.trans (KK.sub (by decide))
 have sr_4 := sr_3.kt KK (by decide) (by decide) (by decide)
 have wr_4 := wr_3.kt KK (by decide)
 have ks_4 := ks_3.kt KK (by decide)
 have kq_4 := kq_3.kt KK (by decide)
 have mq_4 := mq_3.kt KK (by decide)
 have ms_4 := ms_3.kt KK (by decide)
 intro a33 u33 h147_33
 have F33 := F32.pt u33
 clear K_3 H_3 sr_3 wr_3 kq_3 mq_3 KK
 refine wl_pq F33 (ex_as h147_33) fun a34 u34 F34 h18_34 => ?_
 have h7_34 := u34.w (u33.w (u32.w (u31.w (u30.w (u29.w (u28.w (u27.w (u26.w (u25.w (u24.w (u23.w (u22.w (u21.w (u20.w (u19.w (u18.w (u17.w (u16.w (u15.w (u14.w (u13.w (u12.w (u11.w (u10.w (u9.w (u8.w (u7.w (u6.w (u5.w (u4.w (u3.w (u2.w (u1.w h7_0)))))))))))))))))))))))))))))))))
 have h8_34 := u34.w (u33.w (u32.w (u31.w (u30.w (u29.w (u28.w (u27.w (u26.w (u25.w (u24.w (u23.w (u22.w (u21.w (u20.w (u19.w (u18.w (u17.w (u16.w (u15.w (u14.w (u13.w (u12.w (u11.w (u10.w (u9.w (u8.w (u7.w (u6.w (u5.w (u4.w (u3.w (u2.w (u1.w h8_0)))))))))))))))))))))))))))))))))
 have h48_34 := u34.w (u33.w (u32.w (u31.w (u30.w (u29.w (u28.w (u27.w (u26.w (u25.w (u24.w (u23.w (u22.w (u21.w (u20.w (u19.w (u18.w (u17.w (u16.w (u15.w (u14.w (u13.w (u12.w (u11.w (u10.w (u9.w (u8.w (u7.w (u6.w (u5.w (u4.w (u3.w (u2.w (u1.w h48_0)))))))))))))))))))))))))))))))))
 have h49_34 := u34.w (u33.w (u32.w (u31.w (u30.w (u29.w (u28.w (u27.w (u26.w (u25.w (u24.w (u23.w (u22.w (u21.w (u20.w (u19.w (u18.w (u17.w (u16.w (u15.w (u14.w (u13.w (u12.w (u11.w (u10.w (u9.w (u8.w (u7.w (u6.w (u5.w (u4.w (u3.w (u2.w (u1.w h49_0)))))))))))))))))))))))))))))))))
 have h50_34 := u34.w (u33.w (u32.w (u31.w (u30.w (u29.w (u28.w (u27.w (u26.w (u25.w (u24.w (u23.w (u22.w (u21.w (u20.w (u19.w (u18.w (u17.w (u16.w (u15.w (u14.w (u13.w (u12.w (u11.w (u10.w (u9.w (u8.w (u7.w (u6.w (u5.w (u4.w (u3.w (u2.w (u1.w h50_0)))))))))))))))))))))))))))))))))
 have h9_34 := u34.w (u33.w (u32.w (u31.w (u30.w (u29.w (u28.w (u27.w h9_26)))))))
 have h10_34 := u34.w (u33.w (u32.w (u31.w (u30.w (u29.w (u28.w (u27.w (u26.w (u25.w (u24.w (u23.w (u22.w (u21.w (u20.w (u19.w (u18.w (u17.w (u16.w (u15.w (u14.w (u13.w (u12.w (u11.w (u10.w (u9.w (u8.w (u7.w (u6.w (u5.w (u4.w (u3.w (u2.w (u1.w h10_0)))))))))))))))))))))))))))))))))
 have h11_34 := u34.w (u33.w (u32.w (u31.w (u30.w (u29.w (u28.w (u27.w (u26.w (u25.w (u24.w (u23.w (u22.w (u21.w (u20.w (u19.w (u18.w (u17.w (u16.w (u15.w (u14.w (u13.w (u12.w (u11.w (u10.w (u9.w (u8.w (u7.w (u6.w (u5.w (u4.w (u3.w (u2.w (u1.w h11_0)))))))))))))))))))))))))))))))))
 have h17_34 := u34.w (u33.w (u32.w (u31.w (u30.w (u29.w (u28.w (u27.w (u26.w (u25.w h17_24)))))))))
 exact hR ⟨12, { s with map := some q }, num⟩ true _ _ ⟨F34, h7_34, h8_34, h48_34, h49_34, h50_34, h9_34, h10_34, h11_34, h17_34, h18_34, K_4, H_4, sr_4, wr_4, ⟨_, _, B17_4, ks_4, ms_4⟩, ⟨by simp, ⟨⟨ok.1.title, ok.1.uri, ok.1.date, ok.1.li, ok.1.off, ok.1.key, fun _ e => by cases e; exact hq⟩, ok.2⟩, hnum, (fun h => by simp at h), (fun _ => ⟨q, rfl⟩)⟩, rfl⟩
theorem sw_13 {w00 : World} {N0 wb g16 g17 h k : Nat} {d : WinD} {sv wv : Value} {xs : List StepD} {tl : List Bool} {c7 c8 c48 c49 c50 : Value} {num : Nat} {s : SegD} {kp mp : Option Nat} {kv mv : Value} {a0 : Act} {w0 : World} {R : Exit → Act → World → Prop} (hO : d.Ok k) (hk : k < 900) (hJ : PrJ w00 N0 wb g16 g17 h d sv wv xs tl c7 c8 c48 c49 c50 13 num s kp mp kv mv a0 w0) (hR : ∀ x t a w, SwJ w00 N0 wb g17 d sv wv xs tl c7 c8 c48 c49 c50 x t a w → R .normal a w) : (cat [1, 1, 1, 1, 1, 1, 1, 0, 1, 0, 0, 1, 1, 0, 0, 1, 1, 1, 1, 1, 1, 0, 1] fsB).wp Tryd.prog R a0 w0 := by
 obtain ⟨F0, h7_0, h8_0, h48_0, h49_0, h50_0, h9_0, h10_0, h11_0, h14_0, h15_0, h16_0, h17_0, h18_0, h72_0, K_0, H_0, sr_0, wr_0, B16_0, B17_0, ks_0, ms_0, kq_0, mq_0, ok, hnum, hh, hg16, hg17, hw, hfar⟩ := hJ
 have h14_0 : a0.tmps.getD 14 undef = (.int .i64 13) := h14_0
 have h72_0 : a0.tmps.getD 72 undef = (.int .i64 13) := h72_0
 have B17_0 : Blk w0 g17 44 #[(.int .i64 13), (.int .u64 0), (.string s.title), (.string s.uri), (.float .f64 (fb s.e)), (.int .i64 s.li), (.int .i64 s.off), kv, mv, (.slice none 0 0), (.bool s.disc), (.string s.date), (.int .i64 num)] := B17_0
 change Code.wp _ (Code.block _ _) _ _ _
 refine wp_block ?_
 refine wp_sr ?_
 refine wl_pq F0 (ex_bin (vy := (.int .i64 0)) (v := (.bool false)) h72_0 rfl (by kernel_rfl)) fun a1 u1 F1 h74_1 => ?_
 refine wl_pq F1 (ex_as h74_1) fun a2 u2 F2 h73_2 => ?_
 change Code.wp _ _ _ _ _
 refine wp_cond_false h73_2 ?_
 refine wp_sr ?_
 refine wl_pq F2 (ex_bin (vy := (.int .i64 1)) (v := (.bool false)) (u2.w (u1.w h72_0)) rfl (by kernel_rfl)) fun a3 u3 F3 h79_3 => ?_
 refine wl_pq F3 (ex_as h79_3) fun a4 u4 F4 h78_4 => ?_
 change Code.wp _ _ _ _ _
 refine wp_cond_false h78_4 ?_
 refine wp_sr ?_
 have h72_4 := u4.w (u3.w (u2.w (u1.w h72_0)))
 refine wl_pq F4 (ex_bin (vy := (.int .i64 2)) (v := (.bool false)) h72_4 rfl (by kernel_rfl)) fun a5 u5 F5 h83_5 => ?_
 refine wl_pq F5 (ex_as h83_5) fun a6 u6 F6 h82_6 => ?_
 change Code.wp _ _ _ _ _
 refine wp_cond_false h82_6 ?_
 refine wp_sr ?_
 refine wl_pq F6 (ex_bin (vy := (.int .i64 3)) (v := (.bool false)) (u6.w (u5.w h72_4)) rfl (by kernel_rfl)) fun a7 u7 F7 h94_7 => ?_
 refine wl_pq F7 (ex_as h94_7) fun a8 u8 F8 h93_8 => ?_
 change Code.wp _ _ _ _ _
 refine wp_cond_false h93_8 ?_
 refine wp_sr ?_
 have h72_8 := u8.w (u7.w (u6.w (u5.w h72_4)))
 refine wl_pq F8 (ex_bin (vy := (.int .i64 4)) (v := (.bool false)) h72_8 rfl (by kernel_rfl)) fun a9 u9 F9 h99_9 => ?_
 refine wl_pq F9 (ex_as h99_9) fun a10 u10 F10 h98_10 => ?_
 change Code.wp _ _ _ _ _
 refine wp_cond_false h98_10 ?_
 refine wp_seq ?_
 refine wp_sr ?_
 refine wl_pq F10 (ex_bin (vy := (.int .i64 5)) (v := (.bool false)) (u10.w (u9.w h72_8)) rfl (by kernel_rfl)) fun a11 u11 F11 h114_11 => ?_
 refine wl_pq F11 (ex_as h114_11) fun a12 u12 F12 h113_12 => ?_
 change Code.wp _ _ _ _ _
 refine wp_cond_false h113_12 ?_
 refine rg_list ?_
 have h72_12 := u12.w (u11.w (u10.w (u9.w h72_8)))
 refine wl_pq F12 (ex_bin (vy := (.int .i64 11)) (v := (.bool false)) h72_12 rfl (by kernel_rfl)) fun a13 u13 F13 h115_13 => ?_
 refine wl_pq F13 (ex_as h115_13) fun a14 u14 F14 h113_14 => ?_
 change Code.wp _ _ _ _ _
 refine wp_cond_false h113_14 ?_
 refine wp_seq ?_
 refine wp_sr ?_
 refine wl_pq F14 (ex_bin (vy := (.int .i64 6)) (v := (.bool false)) (u14.w (u13.w h72_12)) rfl (by kernel_rfl)) fun a15 u15 F15 h132_15 => ?_
 refine wl_pq F15 (ex_as h132_15) fun a16 u16 F16 h131_16 => ?_
 change Code.wp _ _ _ _ _
 refine wp_cond_false h131_16 ?_
 refine rg_list ?_
 have h72_16 := u16.w (u15.w (u14.w (u13.w h72_12)))
 refine wl_pq F16 (ex_bin (vy := (.int .i64 12)) (v := (.bool false)) h72_16 rfl (by kernel_rfl)) fun a17 u17 F17 h133_17 => ?_
 refine wl_pq F17 (ex_as h133_17) fun a18 u18 F18 h131_18 => ?_
 change Code.wp _ _ _ _ _
 refine wp_cond_false h131_18 ?_
 refine wp_sr ?_
 refine wl_pq F18 (ex_bin (vy := (.int .i64 7)) (v := (.bool false)) (u18.w (u17.w h72_16)) rfl (by kernel_rfl)) fun a19 u19 F19 h149_19 => ?_
 refine wl_pq F19 (ex_as h149_19) fun a20 u20 F20 h148_20 => ?_
 change Code.wp _ _ _ _ _
 refine wp_cond_false h148_20 ?_
 refine wp_sr ?_
 have h72_20 := u20.w (u19.w (u18.w (u17.w h72_16)))
 refine wl_pq F20 (ex_bin (vy := (.int .i64 9)) (v := (.bool false)) h72_20 rfl (by kernel_rfl)) fun a21 u21 F21 h169_21 => ?_
 refine wl_pq F21 (ex_as h169_21) fun a22 u22 F22 h168_22 => ?_
 change Code.wp _ _ _ _ _
 refine wp_cond_false h168_22 ?_
 refine wp_sr ?_
 refine wl_pq F22 (ex_bin (vy := (.int .i64 10)) (v := (.bool false)) (u22.w (u21.w h72_20)) rfl (by kernel_rfl)) fun a23 u23 F23 h179_23 => ?_
 refine wl_pq F23 (ex_as h179_23) fun a24 u24 F24 h178_24 => ?_
 change Code.wp _ _ _ _ _
 refine wp_cond_false h178_24 ?_
 refine wp_sr ?_
 have h72_24 := u24.w (u23.w (u22.w (u21.w h72_20)))
 refine wl_pq F24 (ex_bin (vy := (.int .i64 13)) (v := (.bool true)) h72_24 rfl (by kernel_rfl)) fun a25 u25 F25 h194_25 => ?_
 refine wl_pq F25 (ex_as h194_25) fun a26 u26 F26 h193_26 => ?_
 change Code.wp _ _ _ _ _
 refine wp_cond_true h193_26 ?_
 refine rg_list ?_
 have h9_26 := u26.w (u25.w (u24.w (u23.w (u22.w (u21.w (u20.w (u19.w (u18.w (u17.w (u16.w (u15.w (u14.w (u13.w (u12.w (u11.w (u10.w (u9.w (u8.w (u7.w (u6.w (u5.w (u4.w (u3.w (u2.w (u1.w h9_0)))))))))))))))))))))))))
 refine wl_pq F26 (ex_mv h9_26) fun a27 u27 F27 h195_27 => ?_
 refine wl_cl (args := #[(pt wb)]) (R := fun v w' => v = (.tuple #[]) ∧ WinS w' N0 wb (d.frm) ∧ Kt N0 DS w0 w') (ex_cl (fun _ _ => by kernel_rfl) (arg1 h195_27)) ((frames_any H_0).mono fun _ _ h => ⟨_, h.1, rfl, h.2⟩) F27.l ?_
 rintro v w1 ⟨rfl, H_1, KK⟩
 have B17_1 := B17_0.kt KK (by decide)
 have K_1 := K_0.trans (KK.sub (by decide))
 have sr_1 := sr_0.kt KK (by decide) (by decide) (by decide)
 have wr_1 := wr_0.kt KK (by decide)
 have ks_1 := ks_0.kt KK (by decide)
 have ms_1 := ms_0.kt KK (by decide)
 have kq_1 := kq_0.kt KK (by decide)
 have mq_1 := mq_0.kt KK (by decide)
 intro a28 u28 h196_28
 have F28 := F27.pt u28
 clear K_0 H_0 sr_0 wr_0 kq_0 mq_0 KK
 have h7_28 := u28.w (u27.w (u26.w (u25.w (u24.w (u23.w (u22.w (u21.w (u20.w (u19.w (u18.w (u17.w (u16.w (u15.w (u14.w (u13.w (u12.w (u11.w (u10.w (u9.w (u8.w (u7.w (u6.w (u5.w (u4.w (u3.w (u2.w (u1.w h7_0)))))))))))))))))))))))))))
 have h8_28 := u28.w (u27.w (u26.w (u25.w (u24.w (u23.w (u22.w (u21.w (u20.w (u19.w (u18.w (u17.w (u16.w (u15.w (u14.w (u13.w (u12.w (u11.w (u10.w (u9.w (u8.w (u7.w (u6.w (u5.w (u4.w (u3.w (u2.w (u1.w h8_0)))))))))))))))))))))))))))
 have h48_28 := u28.w (u27.w (u26.w (u25.w (u24.w (u23.w (u22.w (u21.w (u20.w (u19.w (u18.w (u17.w (u16.w (u15.w (u14.w (u13.w (u12.w (u11.w (u10.w (u9.w (u8.w (u7.w (u6.w (u5.w (u4.w (u3.w (u2.w (u1.w h48_0)))))))))))))))))))))))))))
 have h49_28 := u28.w (u27.w (u26.w (u25.w (u24.w (u23.w (u22.w (u21.w (u20.w (u19.w (u18.w (u17.w (u16.w (u15.w (u14.w (u13.w (u12.w (u11.w (u10.w (u9.w (u8.w (u7.w (u6.w (u5.w (u4.w (u3.w (u2.w (u1.w h49_0)))))))))))))))))))))))))))
 have h50_28 := u28.w (u27.w (u26.w (u25.w (u24.w (u23.w (u22.w (u21.w (u20.w (u19.w (u18.w (u17.w (u16.w (u15.w (u14.w (u13.w (u12.w (u11.w (u10.w (u9.w (u8.w (u7.w (u6.w (u5.w (u4.w (u3.w (u2.w (u1.w h50_0)))))))))))))))))))))))))))
 have h10_28 := u28.w (u27.w (u26.w (u25.w (u24.w (u23.w (u22.w (u21.w (u20.w (u19.w (u18.w (u17.w (u16.w (u15.w (u14.w (u13.w (u12.w (u11.w (u10.w (u9.w (u8.w (u7.w (u6.w (u5.w (u4.w (u3.w (u2.w (u1.w h10_0)))))))))))))))))))))))))))
 have h11_28 := u28.w (u27.w (u26.w (u25.w (u24.w (u23.w (u22.w (u21.w (u20.w (u19.w (u18.w (u17.w (u16.w (u15.w (u14.w (u13.w (u12.w (u11.w (u10.w (u9.w (u8.w (u7.w (u6.w (u5.w (u4.w (u3.w (u2.w (u1.w h11_0)))))))))))))))))))))))))))
 have h17_28 := u28.w (u27.w (u26.w (u25.w (u24.w (u23.w (u22.w (u21.w (u20.w (u19.w (u18.w (u17.w (u16.w (u15.w (u14.w (u13.w (u12.w (u11.w (u10.w (u9.w (u8.w (u7.w (u6.w (u5.w (u4.w (u3.w (u2.w (u1.w h17_0)))))))))))))))))))))))))))
 have h18_28 := u28.w (u27.w (u26.w (u25.w (u24.w (u23.w (u22.w (u21.w (u20.w (u19.w (u18.w (u17.w (u16.w (u15.w (u14.w (u13.w (u12.w (u11.w (u10.w (u9.w (u8.w (u7.w (u6.w (u5.w (u4.w (u3.w (u2.w (u1.w h18_0)))))))))))))))))))))))))))
 exact hR ⟨13, s, num⟩ true _ _ ⟨F28, h7_28, h8_28, h48_28, h49_28, h50_28, (u28.w (u27.w h9_26)), h10_28, h11_28, h17_28, h18_28, K_1, H_1, sr_1, wr_1, ⟨_, _, B17_1, ks_1, ms_1⟩, ⟨by simp, ok, hnum, (fun h => by simp at h), (fun h => by simp at h)⟩, rfl⟩
theorem sw_14 {w00 : World} {N0 wb g16 g17 h k : Nat} {d : WinD} {sv wv : Value} {xs : List StepD} {tl : List Bool} {c7 c8 c48 c49 c50 : Value} {num : Nat} {s : SegD} {kp mp : Option Nat} {kv mv : Value} {a0 : Act} {w0 : World} {R : Exit → Act → World → Prop} (hO : d.Ok k) (hk : k < 900) (hJ : PrJ w00 N0 wb g16 g17 h d sv wv xs tl c7 c8 c48 c49 c50 14 num s kp mp kv mv a0 w0) (hR : ∀ x t a w, SwJ w00 N0 wb g17 d sv wv xs tl c7 c8 c48 c49 c50 x t a w → R .normal a w) : (cat [1, 1, 1, 1, 1, 1, 1, 0, 1, 0, 0, 1, 1, 0, 0, 1, 1, 1, 1, 1, 1, 0, 1] fsB).wp Tryd.prog R a0 w0 := by
 obtain ⟨F0, h7_0, h8_0, h48_0, h49_0, h50_0, h9_0, h10_0, h11_0, h14_0, h15_0, h16_0, h17_0, h18_0, h72_0, K_0, H_0, sr_0, wr_0, B16_0, B17_0, ks_0, ms_0, kq_0, mq_0, ok, hnum, hh, hg16, hg17, hw, hfar⟩ := hJ
 have h14_0 : a0.tmps.getD 14 undef = (.int .i64 14) := h14_0
 have h72_0 : a0.tmps.getD 72 undef = (.int .i64 14) := h72_0
 have B17_0 : Blk w0 g17 44 #[(.int .i64 14), (.int .u64 0), (.string s.title), (.string s.uri), (.float .f64 (fb s.e)), (.int .i64 s.li), (.int .i64 s.off), kv, mv, (.slice none 0 0), (.bool s.disc), (.string s.date), (.int .i64 num)] := B17_0
 change Code.wp _ (Code.block _ _) _ _ _
 obtain ⟨⟨kpw, mpw, swv, nwv, Bw_0, kw_0, mw_0, sw_0, nw_0⟩, hwb, hbw⟩ := H_0
 refine wp_block ?_
 refine wp_sr ?_
 refine wl_pq F0 (ex_bin (vy := (.int .i64 0)) (v := (.bool false)) h72_0 rfl (by kernel_rfl)) fun a1 u1 F1 h74_1 => ?_
 refine wl_pq F1 (ex_as h74_1) fun a2 u2 F2 h73_2 => ?_
 change Code.wp _ _ _ _ _
 refine wp_cond_false h73_2 ?_
 refine wp_sr ?_
 refine wl_pq F2 (ex_bin (vy := (.int .i64 1)) (v := (.bool false)) (u2.w (u1.w h72_0)) rfl (by kernel_rfl)) fun a3 u3 F3 h79_3 => ?_
 refine wl_pq F3 (ex_as h79_3) fun a4 u4 F4 h78_4 => ?_
 change Code.wp _ _ _ _ _
 refine wp_cond_false h78_4 ?_
 refine wp_sr ?_
 have h72_4 := u4.w (u3.w (u2.w (u1.w h72_0)))
 refine wl_pq F4 (ex_bin (vy := (.int .i64 2)) (v := (.bool false)) h72_4 rfl (by kernel_rfl)) fun a5 u5 F5 h83_5 => ?_
 refine wl_pq F5 (ex_as h83_5) fun a6 u6 F6 h82_6 => ?_
 change Code.wp _ _ _ _ _
 refine wp_cond_false h82_6 ?_
 refine wp_sr ?_
 refine wl_pq F6 (ex_bin (vy := (.int .i64 3)) (v := (.bool false)) (u6.w (u5.w h72_4)) rfl (by kernel_rfl)) fun a7 u7 F7 h94_7 => ?_
 refine wl_pq F7 (ex_as h94_7) fun a8 u8 F8 h93_8 => ?_
 change Code.wp _ _ _ _ _
 refine wp_cond_false h93_8 ?_
 refine wp_sr ?_
 have h72_8 := u8.w (u7.w (u6.w (u5.w h72_4)))
 refine wl_pq F8 (ex_bin (vy := (.int .i64 4)) (v := (.bool false)) h72_8 rfl (by kernel_rfl)) fun a9 u9 F9 h99_9 => ?_
 refine wl_pq F9 (ex_as h99_9) fun a10 u10 F10 h98_10 => ?_
 change Code.wp _ _ _ _ _
 refine wp_cond_false h98_10 ?_
 refine wp_seq ?_
 refine wp_sr ?_
 refine wl_pq F10 (ex_bin (vy := (.int .i64 5)) (v := (.bool false)) (u10.w (u9.w h72_8)) rfl (by kernel_rfl)) fun a11 u11 F11 h114_11 => ?_
 refine wl_pq F11 (ex_as h114_11) fun a12 u12 F12 h113_12 => ?_
 change Code.wp _ _ _ _ _
 refine wp_cond_false h113_12 ?_
 refine rg_list ?_
 have h72_12 := u12.w (u11.w (u10.w (u9.w h72_8)))
 refine wl_pq F12 (ex_bin (vy := (.int .i64 11)) (v := (.bool false)) h72_12 rfl (by kernel_rfl)) fun a13 u13 F13 h115_13 => ?_
 refine wl_pq F13 (ex_as h115_13) fun a14 u14 F14 h113_14 => ?_
 change Code.wp _ _ _ _ _
 refine wp_cond_false h113_14 ?_
 refine wp_seq ?_
 refine wp_sr ?_
 refine wl_pq F14 (ex_bin (vy := (.int .i64 6)) (v := (.bool false)) (u14.w (u13.w h72_12)) rfl (by kernel_rfl)) fun a15 u15 F15 h132_15 => ?_
 refine wl_pq F15 (ex_as h132_15) fun a16 u16 F16 h131_16 => ?_
 change Code.wp _ _ _ _ _
 refine wp_cond_false h131_16 ?_
 refine rg_list ?_
 have h72_16 := u16.w (u15.w (u14.w (u13.w h72_12)))
 refine wl_pq F16 (ex_bin (vy := (.int .i64 12)) (v := (.bool false)) h72_16 rfl (by kernel_rfl)) fun a17 u17 F17 h133_17 => ?_
 refine wl_pq F17 (ex_as h133_17) fun a18 u18 F18 h131_18 => ?_
 change Code.wp _ _ _ _ _
 refine wp_cond_false h131_18 ?_
 refine wp_sr ?_
 refine wl_pq F18 (ex_bin (vy := (.int .i64 7)) (v := (.bool false)) (u18.w (u17.w h72_16)) rfl (by kernel_rfl)) fun a19 u19 F19 h149_19 => ?_
 refine wl_pq F19 (ex_as h149_19) fun a20 u20 F20 h148_20 => ?_
 change Code.wp _ _ _ _ _
 refine wp_cond_false h148_20 ?_
 refine wp_sr ?_
 have h72_20 := u20.w (u19.w (u18.w (u17.w h72_16)))
 refine wl_pq F20 (ex_bin (vy := (.int .i64 9)) (v := (.bool false)) h72_20 rfl (by kernel_rfl)) fun a21 u21 F21 h169_21 => ?_
 refine wl_pq F21 (ex_as h169_21) fun a22 u22 F22 h168_22 => ?_
 change Code.wp _ _ _ _ _
 refine wp_cond_false h168_22 ?_
 refine wp_sr ?_
 refine wl_pq F22 (ex_bin (vy := (.int .i64 10)) (v := (.bool false)) (u22.w (u21.w h72_20)) rfl (by kernel_rfl)) fun a23 u23 F23 h179_23 => ?_
 refine wl_pq F23 (ex_as h179_23) fun a24 u24 F24 h178_24 => ?_
 change Code.wp _ _ _ _ _
 refine wp_cond_false h178_24 ?_
 refine wp_sr ?_
 have h72_24 := u24.w (u23.w (u22.w (u21.w h72_20)))
 refine wl_pq F24 (ex_bin (vy := (.int .i64 13)) (v := (.bool false)) h72_24 rfl (by kernel_rfl)) fun a25 u25 F25 h194_25 => ?_
 refine wl_pq F25 (ex_as h194_25) fun a26 u26 F26 h193_26 => ?_
 change Code.wp _ _ _ _ _
 refine wp_cond_false h193_26 ?_
 refine wp_sr ?_
 refine wl_pq F26 (ex_bin (vy := (.int .i64 14)) (v := (.bool true)) (u26.w (u25.w h72_24)) rfl (by kernel_rfl)) fun a27 u27 F27 h198_27 => ?_
 refine wl_pq F27 (ex_as h198_27) fun a28 u28 F28 h197_28 => ?_
 change Code.wp _ _ _ _ _
 refine wp_cond_true h197_28 ?_
 refine rg_list ?_
 have h9_28 := u28.w (u27.w (u26.w (u25.w (u24.w (u23.w (u22.w (u21.w (u20.w (u19.w (u18.w (u17.w (u16.w (u15.w (u14.w (u13.w (u12.w (u11.w (u10.w (u9.w (u8.w (u7.w (u6.w (u5.w (u4.w (u3.w (u2.w (u1.w h9_0)))))))))))))))))))))))))))
 refine wl_pq F28 (ex_mv h9_28) fun a29 u29 F29 h199_29 => ?_
 have h17_29 := u29.w (u28.w (u27.w (u26.w (u25.w (u24.w (u23.w (u22.w (u21.w (u20.w (u19.w (u18.w (u17.w (u16.w (u15.w (u14.w (u13.w (u12.w (u11.w (u10.w (u9.w (u8.w (u7.w (u6.w (u5.w (u4.w (u3.w (u2.w (u1.w h17_0))))))))))))))))))))))))))))
 refine wl_pq F29 (ex_fb 12 h17_29) fun a30 u30 F30 h200_30 => ?_
 refine wl_pq F30 (ex_le (v := (.int .i64 num)) h200_30 (B17_0.cell 12)) fun a31 u31 F31 h201_31 => ?_
 refine wl_pq F31 (ex_nil (u31.w (u30.w h199_29))) fun a32 u32 F32 h202_32 => ?_
 refine wl_pq F32 (ex_fb 2 h202_32) fun a33 u33 F33 h203_33 => ?_
 obtain ⟨w1, hr1, Bw_1, G1⟩ := st_run (T := 3) (o := 2) (v := (.int .i64 num)) (cs' := #[(.int .i64 d.places), (.int .i64 d.written), (.int .i64 num), (.int .u64 d.seq), (.int .i64 d.tgt), (.bool d.clo), (.bool d.ifr), (pto kpw), (pto mpw), swv, nwv]) (fun _ => by kernel_rfl) Bw_0 rfl (Nat.le_of_ble_eq_true rfl) rfl
 have B16_1 := B16_0.gk G1 (B16_0.ne_ Bw_0 (by decide))
 have B17_1 := B17_0.gk G1 (B17_0.ne_ Bw_0 (by decide))
 have K_1 := K_0.blk hw Bw_0 hwb (by decide) G1
 have sr_1 := sr_0.kt (Kt.of_blk Bw_0 G1) (by decide) (by decide) (by decide)
 have wr_1 := wr_0.kt (Kt.of_blk Bw_0 G1) (by decide)
 have ks_1 := ks_0.kt (Kt.of_blk Bw_0 G1) (by decide)
 have ms_1 := ms_0.kt (Kt.of_blk Bw_0 G1) (by decide)
 have kq_1 := kq_0.kt (Kt.of_blk Bw_0 G1) (by decide)
 have mq_1 := mq_0.kt (Kt.of_blk Bw_0 G1) (by decide)
 have sw_1 := sw_0.kt (Kt.of_blk Bw_0 G1) (by decide) (by decide) (by decide)
 have nw_1 := nw_0.kt (Kt.of_blk Bw_0 G1) (by decide)
 have kw_1 := kw_0.kt (Kt.of_blk Bw_0 G1) (by decide)
 have mw_1 := mw_0.kt (Kt.of_blk Bw_0 G1) (by decide)
 refine wl_n (ex_st h203_33 (u33.w (u32.w h201_31)) hr1) ?_
 clear K_0 sr_0 wr_0 kq_0 mq_0 sw_0 nw_0 kw_0 mw_0
 have h7_33 := u33.w (u32.w (u31.w (u30.w (u29.w (u28.w (u27.w (u26.w (u25.w (u24.w (u23.w (u22.w (u21.w (u20.w (u19.w (u18.w (u17.w (u16.w (u15.w (u14.w (u13.w (u12.w (u11.w (u10.w (u9.w (u8.w (u7.w (u6.w (u5.w (u4.w (u3.w (u2.w (u1.w h7_0))))))))))))))))))))))))))))))))
 have h8_33 := u33.w (u32.w (u31.w (u30.w (u29.w (u28.w (u27.w (u26.w (u25.w (u24.w (u23.w (u22.w (u21.w (u20.w (u19.w (u18.w (u17.w (u16.w (u15.w (u14.w (u13.w (u12.w (u11.w (u10.w (u9.w (u8.w (u7.w (u6.w (u5.w (u4.w (u3.w (u2.w (u1.w h8_0))))))))))))))))))))))))))))))))
 have h48_33 := u33.w (u32.w (u31.w (u30.w (u29.w (u28.w (u27.w (u26.w (u25.w (u24.w (u23.w (u22.w (u21.w (u20.w (u19.w (u18.w (u17.w (u16.w (u15.w (u14.w (u13.w (u12.w (u11.w (u10.w (u9.w (u8.w (u7.w (u6.w (u5.w (u4.w (u3.w (u2.w (u1.w h48_0))))))))))))))))))))))))))))))))
 have h49_33 := u33.w (u32.w (u31.w (u30.w (u29.w (u28.w (u27.w (u26.w (u25.w (u24.w (u23.w (u22.w (u21.w (u20.w (u19.w (u18.w (u17.w (u16.w (u15.w (u14.w (u13.w (u12.w (u11.w (u10.w (u9.w (u8.w (u7.w (u6.w (u5.w (u4.w (u3.w (u2.w (u1.w h49_0))))))))))))))))))))))))))))))))
 have h50_33 := u33.w (u32.w (u31.w (u30.w (u29.w (u28.w (u27.w (u26.w (u25.w (u24.w (u23.w (u22.w (u21.w (u20.w (u19.w (u18.w (u17.w (u16.w (u15.w (u14.w (u13.w (u12.w (u11.w (u10.w (u9.w (u8.w (u7.w (u6.w (u5.w (u4.w (u3.w (u2.w (u1.w h50_0))))))))))))))))))))))))))))))))
 have h9_33 := u33.w (u32.w (u31.w (u30.w (u29.w h9_28))))
 have h10_33 := u33.w (u32.w (u31.w (u30.w (u29.w (u28.w (u27.w (u26.w (u25.w (u24.w (u23.w (u22.w (u21.w (u20.w (u19.w (u18.w (u17.w (u16.w (u15.w (u14.w (u13.w (u12.w (u11.w (u10.w (u9.w (u8.w (u7.w (u6.w (u5.w (u4.w (u3.w (u2.w (u1.w h10_0))))))))))))))))))))))))))))))))
 have h11_33 := u33.w (u32.w (u31.w (u30.w (u29.w (u28.w (u27.w (u26.w (u25.w (u24.w (u23.w (u22.w (u21.w (u20.w (u19.w (u18.w (u17.w (u16.w (u15.w (u14.w (u13.w (u12.w (u11.w (u10.w (u9.w (u8.w (u7.w (u6.w (u5.w (u4.w (u3.w (u2.w (u1.w h11_0))))))))))))))))))))))))))))))))
 have h17_33 := u33.w (u32.w (u31.w (u30.w h17_29)))
 have h18_33 := u33.w (u32.w (u31.w (u30.w (u29.w (u28.w (u27.w (u26.w (u25.w (u24.w (u23.w (u22.w (u21.w (u20.w (u19.w (u18.w (u17.w (u16.w (u15.w (u14.w (u13.w (u12.w (u11.w (u10.w (u9.w (u8.w (u7.w (u6.w (u5.w (u4.w (u3.w (u2.w (u1.w h18_0))))))))))))))))))))))))))))))))
 exact hR ⟨14, s, num⟩ true _ _ ⟨F33, h7_33, h8_33, h48_33, h49_33, h50_33, h9_33, h10_33, h11_33, h17_33, h18_33, K_1, ⟨⟨_, _, _, _, Bw_1, kw_1, mw_1, sw_1, nw_1⟩, hwb, K_1.le hw⟩, sr_1, wr_1, ⟨_, _, B17_1, ks_1, ms_1⟩, ⟨by simp, ok, hnum, (fun h => by simp at h), (fun h => by simp at h)⟩, rfl⟩
end Go.Proofs.YtdpebhlkgmopkaaDoor
