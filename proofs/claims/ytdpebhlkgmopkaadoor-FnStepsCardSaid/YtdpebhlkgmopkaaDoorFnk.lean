/-
 FnSteps: the law's own steps, one kind after another.
-/
import Derived.Test.YtdpebhlkgmopkaaDoorFns
namespace Go.Proofs.YtdpebhlkgmopkaaDoor
open Go.RowKit
set_option maxRecDepth 100000
theorem sw_0 {w00 : World} {N0 wb g16 g17 h k : Nat} {d : WinD} {sv wv : Value} {xs : List StepD} {tl : List Bool} {c7 c8 c48 c49 c50 : Value} {num : Nat} {s : SegD} {kp mp : Option Nat} {kv mv : Value} {a0 : Act} {w0 : World} {R : Exit → Act → World → Prop} (hO : d.Ok k) (hk : k < 900) (hJ : PrJ w00 N0 wb g16 g17 h d sv wv xs tl c7 c8 c48 c49 c50 0 num s kp mp kv mv a0 w0) (hR : ∀ x t a w, SwJ w00 N0 wb g17 d sv wv xs tl c7 c8 c48 c49 c50 x t a w → R .normal a w) : (cat [1, 1, 1, 1, 1, 1, 1, 0, 1, 0, 0, 1, 1, 0, 0, 1, 1, 1, 1, 1, 1, 0, 1] fsB).wp Tryd.prog R a0 w0 := by
 obtain ⟨F0, h7_0, h8_0, h48_0, h49_0, h50_0, h9_0, h10_0, h11_0, h14_0, h15_0, h16_0, h17_0, h18_0, h72_0, K_0, H_0, sr_0, wr_0, B16_0, B17_0, ks_0, ms_0, kq_0, mq_0, ok, hnum, hh, hg16, hg17, hw, hfar⟩ := hJ
 have h14_0 : a0.tmps.getD 14 undef = (.int .i64 0) := h14_0
 have h72_0 : a0.tmps.getD 72 undef = (.int .i64 0) := h72_0
 have B17_0 : Blk w0 g17 44 #[(.int .i64 0), (.int .u64 0), (.string s.title), (.string s.uri), (.float .f64 (fb s.e)), (.int .i64 s.li), (.int .i64 s.off), kv, mv, (.slice none 0 0), (.bool s.disc), (.string s.date), (.int .i64 num)] := B17_0
 change Code.wp _ (Code.block _ _) _ _ _
 refine wp_block ?_
 refine wp_sr ?_
 refine wl_pq F0 (ex_bin (vy := (.int .i64 0)) (v := (.bool true)) h72_0 rfl (by kernel_rfl)) fun a1 u1 F1 h74_1 => ?_
 refine wl_pq F1 (ex_as h74_1) fun a2 u2 F2 h73_2 => ?_
 change Code.wp _ _ _ _ _
 refine wp_cond_true h73_2 ?_
 refine rg_list ?_
 refine wl_pq F2 (ex_mv (u2.w (u1.w h9_0))) fun a3 u3 F3 h75_3 => ?_
 have h16_3 := u3.w (u2.w (u1.w h16_0))
 refine wl_pq F3 (ex_lda h16_3 (ld_agg (n := 9) (xs := #[(.string s.title), (.string s.uri), (.int .i64 s.e), (.int .i64 s.li), (.int .i64 s.off), (pto kp), (pto mp), (.bool s.disc), (.string s.date)]) (fun _ => by kernel_rfl) (fun _ => by kernel_rfl) B16_0 rfl (fun _ _ => by rw [Nat.zero_add] <;> rfl))) fun a4 u4 F4 (h76_4 : a4.tmps.getD 76 undef = (.agg #[(.string s.title), (.string s.uri), (.int .i64 s.e), (.int .i64 s.li), (.int .i64 s.off), (pto kp), (pto mp), (.bool s.disc), (.string s.date)])) => ?_
 refine wl_cl (args := #[(pt wb), (.agg #[(.string s.title), (.string s.uri), (.int .i64 s.e), (.int .i64 s.li), (.int .i64 s.off), (pto kp), (pto mp), (.bool s.disc), (.string s.date)])]) (R := fun v w' => v = (.bool (decide (d.segs.length ≠ d.places))) ∧ WinS w' N0 wb (d.put s) ∧ Kt N0 DS w0 w') (ex_cl (fun _ _ => by kernel_rfl) (arg2 (u4.w h75_3) h76_4)) ((put_any hO (Nat.le_of_lt hk) H_0 (by have := ok.2; omega) kq_0 mq_0).mono fun _ _ h => ⟨_, h.1, rfl, h.2⟩) F4.l ?_
 rintro v w1 ⟨rfl, H_1, KK⟩
 have B17_1 := B17_0.kt KK (by decide)
 have K_1 := K_0.trans (KK.sub (by decide))
 have sr_1 := sr_0.kt KK (by decide) (by decide) (by decide)
 have wr_1 := wr_0.kt KK (by decide)
 have ks_1 := ks_0.kt KK (by decide)
 have ms_1 := ms_0.kt KK (by decide)
 have kq_1 := kq_0.kt KK (by decide)
 have mq_1 := mq_0.kt KK (by decide)
 intro a5 u5 h77_5
 have F5 := F4.pt u5
 clear K_0 H_0 sr_0 wr_0 kq_0 mq_0 KK
 refine wl_pq F5 (ex_as h77_5) fun a6 u6 F6 h18_6 => ?_
 have h7_6 := u6.w (u5.w (u4.w (u3.w (u2.w (u1.w h7_0)))))
 have h8_6 := u6.w (u5.w (u4.w (u3.w (u2.w (u1.w h8_0)))))
 have h48_6 := u6.w (u5.w (u4.w (u3.w (u2.w (u1.w h48_0)))))
 have h49_6 := u6.w (u5.w (u4.w (u3.w (u2.w (u1.w h49_0)))))
 have h50_6 := u6.w (u5.w (u4.w (u3.w (u2.w (u1.w h50_0)))))
 have h9_6 := u6.w (u5.w (u4.w (u3.w (u2.w (u1.w h9_0)))))
 have h10_6 := u6.w (u5.w (u4.w (u3.w (u2.w (u1.w h10_0)))))
 have h11_6 := u6.w (u5.w (u4.w (u3.w (u2.w (u1.w h11_0)))))
 have h17_6 := u6.w (u5.w (u4.w (u3.w (u2.w (u1.w h17_0)))))
 exact hR ⟨0, s, num⟩ (decide (d.segs.length ≠ d.places)) _ _ ⟨F6, h7_6, h8_6, h48_6, h49_6, h50_6, h9_6, h10_6, h11_6, h17_6, h18_6, K_1, H_1, sr_1, wr_1, ⟨_, _, B17_1, ks_1, ms_1⟩, ⟨by simp, ok, hnum, (fun h => by simp at h), (fun h => by simp at h)⟩, rfl⟩
theorem sw_1 {w00 : World} {N0 wb g16 g17 h k : Nat} {d : WinD} {sv wv : Value} {xs : List StepD} {tl : List Bool} {c7 c8 c48 c49 c50 : Value} {num : Nat} {s : SegD} {kp mp : Option Nat} {kv mv : Value} {a0 : Act} {w0 : World} {R : Exit → Act → World → Prop} (hO : d.Ok k) (hk : k < 900) (hJ : PrJ w00 N0 wb g16 g17 h d sv wv xs tl c7 c8 c48 c49 c50 1 num s kp mp kv mv a0 w0) (hR : ∀ x t a w, SwJ w00 N0 wb g17 d sv wv xs tl c7 c8 c48 c49 c50 x t a w → R .normal a w) : (cat [1, 1, 1, 1, 1, 1, 1, 0, 1, 0, 0, 1, 1, 0, 0, 1, 1, 1, 1, 1, 1, 0, 1] fsB).wp Tryd.prog R a0 w0 := by
 obtain ⟨F0, h7_0, h8_0, h48_0, h49_0, h50_0, h9_0, h10_0, h11_0, h14_0, h15_0, h16_0, h17_0, h18_0, h72_0, K_0, H_0, sr_0, wr_0, B16_0, B17_0, ks_0, ms_0, kq_0, mq_0, ok, hnum, hh, hg16, hg17, hw, hfar⟩ := hJ
 have h14_0 : a0.tmps.getD 14 undef = (.int .i64 1) := h14_0
 have h72_0 : a0.tmps.getD 72 undef = (.int .i64 1) := h72_0
 have B17_0 : Blk w0 g17 44 #[(.int .i64 1), (.int .u64 0), (.string s.title), (.string s.uri), (.float .f64 (fb s.e)), (.int .i64 s.li), (.int .i64 s.off), kv, mv, (.slice none 0 0), (.bool s.disc), (.string s.date), (.int .i64 num)] := B17_0
 change Code.wp _ (Code.block _ _) _ _ _
 refine wp_block ?_
 refine wp_sr ?_
 refine wl_pq F0 (ex_bin (vy := (.int .i64 0)) (v := (.bool false)) h72_0 rfl (by kernel_rfl)) fun a1 u1 F1 h74_1 => ?_
 refine wl_pq F1 (ex_as h74_1) fun a2 u2 F2 h73_2 => ?_
 change Code.wp _ _ _ _ _
 refine wp_cond_false h73_2 ?_
 refine wp_sr ?_
 refine wl_pq F2 (ex_bin (vy := (.int .i64 1)) (v := (.bool true)) (u2.w (u1.w h72_0)) rfl (by kernel_rfl)) fun a3 u3 F3 h79_3 => ?_
 refine wl_pq F3 (ex_as h79_3) fun a4 u4 F4 h78_4 => ?_
 change Code.wp _ _ _ _ _
 refine wp_cond_true h78_4 ?_
 refine rg_list ?_
 have h9_4 := u4.w (u3.w (u2.w (u1.w h9_0)))
 refine wl_pq F4 (ex_mv h9_4) fun a5 u5 F5 h80_5 => ?_
 obtain ⟨cw, hcw⟩ := H_0.blk
 refine wl_cl (args := #[(pt wb)]) (R := fun v w' => v = (.bool (decide (d.segs.length ≠ 0))) ∧ WinS w' N0 wb (d.take) ∧ Kt N0 DS w0 w') (ex_cl (fun _ _ => by kernel_rfl) (arg1 h80_5)) ((take_any hO (Nat.le_of_lt hk) H_0).mono fun _ _ h => ⟨_, h.1, rfl, h.2.1, (Kt.refl N0 DS _).blk H_0.hw hcw H_0.hb (by decide) h.2.2⟩) F5.l ?_
 rintro v w1 ⟨rfl, H_1, KK⟩
 have B17_1 := B17_0.kt KK (by decide)
 have K_1 := K_0.trans (KK.sub (by decide))
 have sr_1 := sr_0.kt KK (by decide) (by decide) (by decide)
 have wr_1 := wr_0.kt KK (by decide)
 have ks_1 := ks_0.kt KK (by decide)
 have ms_1 := ms_0.kt KK (by decide)
 have kq_1 := kq_0.kt KK (by decide)
 have mq_1 := mq_0.kt KK (by decide)
 intro a6 u6 h81_6
 have F6 := F5.pt u6
 clear K_0 H_0 sr_0 wr_0 kq_0 mq_0 KK
 refine wl_pq F6 (ex_as h81_6) fun a7 u7 F7 h18_7 => ?_
 have h7_7 := u7.w (u6.w (u5.w (u4.w (u3.w (u2.w (u1.w h7_0))))))
 have h8_7 := u7.w (u6.w (u5.w (u4.w (u3.w (u2.w (u1.w h8_0))))))
 have h48_7 := u7.w (u6.w (u5.w (u4.w (u3.w (u2.w (u1.w h48_0))))))
 have h49_7 := u7.w (u6.w (u5.w (u4.w (u3.w (u2.w (u1.w h49_0))))))
 have h50_7 := u7.w (u6.w (u5.w (u4.w (u3.w (u2.w (u1.w h50_0))))))
 have h9_7 := u7.w (u6.w (u5.w h9_4))
 have h10_7 := u7.w (u6.w (u5.w (u4.w (u3.w (u2.w (u1.w h10_0))))))
 have h11_7 := u7.w (u6.w (u5.w (u4.w (u3.w (u2.w (u1.w h11_0))))))
 have h17_7 := u7.w (u6.w (u5.w (u4.w (u3.w (u2.w (u1.w h17_0))))))
 exact hR ⟨1, s, num⟩ (decide (d.segs.length ≠ 0)) _ _ ⟨F7, h7_7, h8_7, h48_7, h49_7, h50_7, h9_7, h10_7, h11_7, h17_7, h18_7, K_1, H_1, sr_1, wr_1, ⟨_, _, B17_1, ks_1, ms_1⟩, ⟨by simp, ok, hnum, (fun h => by simp at h), (fun h => by simp at h)⟩, rfl⟩
theorem sw_2 {w00 : World} {N0 wb g16 g17 h k : Nat} {d : WinD} {sv wv : Value} {xs : List StepD} {tl : List Bool} {c7 c8 c48 c49 c50 : Value} {num : Nat} {s : SegD} {kp mp : Option Nat} {kv mv : Value} {a0 : Act} {w0 : World} {R : Exit → Act → World → Prop} (hO : d.Ok k) (hk : k < 900) (hJ : PrJ w00 N0 wb g16 g17 h d sv wv xs tl c7 c8 c48 c49 c50 2 num s kp mp kv mv a0 w0) (hR : ∀ x t a w, SwJ w00 N0 wb g17 d sv wv xs tl c7 c8 c48 c49 c50 x t a w → R .normal a w) : (cat [1, 1, 1, 1, 1, 1, 1, 0, 1, 0, 0, 1, 1, 0, 0, 1, 1, 1, 1, 1, 1, 0, 1] fsB).wp Tryd.prog R a0 w0 := by
 obtain ⟨F0, h7_0, h8_0, h48_0, h49_0, h50_0, h9_0, h10_0, h11_0, h14_0, h15_0, h16_0, h17_0, h18_0, h72_0, K_0, H_0, sr_0, wr_0, B16_0, B17_0, ks_0, ms_0, kq_0, mq_0, ok, hnum, hh, hg16, hg17, hw, hfar⟩ := hJ
 have h14_0 : a0.tmps.getD 14 undef = (.int .i64 2) := h14_0
 have h72_0 : a0.tmps.getD 72 undef = (.int .i64 2) := h72_0
 have B17_0 : Blk w0 g17 44 #[(.int .i64 2), (.int .u64 0), (.string s.title), (.string s.uri), (.float .f64 (fb s.e)), (.int .i64 s.li), (.int .i64 s.off), kv, mv, (.slice none 0 0), (.bool s.disc), (.string s.date), (.int .i64 num)] := B17_0
 change Code.wp _ (Code.block _ _) _ _ _
 refine wp_block ?_
 refine wp_sr ?_
 refine wl_pq F0 (ex_bin (vy := (.int .i64 0)) (v := (.bool false)) h72_0 rfl (by kernel_rfl)) fun a1 u1 F1 h74_1 => ?_
 refine wl_pq F1 (ex_as h74_1) fun a2 u2 F2 h73_2 => ?_
 change Code.wp _ _ _ _ _
 refine wp_cond_false h73_2 ?_
 refine wp_sr ?_
 refine wl_pq F2 (ex_bin (vy := (.int .i64 1)) (v := (.bool false)) (u2.w (u1.w h72_0)) rfl (by kernel_rfl)) fun a3 u3 F3 h79_3 => ?_
 refine wl_pq F3 (ex_as h79_3) fun a4 u4 F4 h78_4 => ?_
 change Code.wp _ _ _ _ _
 refine wp_cond_false h78_4 ?_
 refine wp_sr ?_
 have h72_4 := u4.w (u3.w (u2.w (u1.w h72_0)))
 refine wl_pq F4 (ex_bin (vy := (.int .i64 2)) (v := (.bool true)) h72_4 rfl (by kernel_rfl)) fun a5 u5 F5 h83_5 => ?_
 refine wl_pq F5 (ex_as h83_5) fun a6 u6 F6 h82_6 => ?_
 change Code.wp _ _ _ _ _
 refine wp_cond_true h82_6 ?_
 refine rg_list ?_
 have h9_6 := u6.w (u5.w (u4.w (u3.w (u2.w (u1.w h9_0)))))
 refine wl_pq F6 (ex_mv h9_6) fun a7 u7 F7 h84_7 => ?_
 have h16_7 := u7.w (u6.w (u5.w (u4.w (u3.w (u2.w (u1.w h16_0))))))
 refine wl_pq F7 (ex_fb 1 h16_7) fun a8 u8 F8 h85_8 => ?_
 refine wl_pq F8 (ex_le (v := (.string s.uri)) h85_8 (B16_0.cell 1)) fun a9 u9 F9 h86_9 => ?_
 refine wl_pq F9 (ex_fb 2 (u9.w (u8.w h16_7))) fun a10 u10 F10 h87_10 => ?_
 refine wl_pq F10 (ex_le (v := (.int .i64 s.e)) h87_10 (B16_0.cell 2)) fun a11 u11 F11 h88_11 => ?_
 have h16_11 := u11.w (u10.w (u9.w (u8.w h16_7)))
 refine wl_pq F11 (ex_fb 0 h16_11) fun a12 u12 F12 h89_12 => ?_
 refine wl_pq F12 (ex_le (v := (.string s.title)) h89_12 (B16_0.cell 0)) fun a13 u13 F13 h90_13 => ?_
 have h86_13 := u13.w (u12.w (u11.w (u10.w h86_9)))
 refine wl_pq F13 (ex_bd (w' := w0) (vs :=  #[(1, (.string s.uri)), (2, (.int .i64 s.e)), (0, (.string s.title))]) (v := (.agg #[(.string s.title), (.string s.uri), (.int .i64 s.e), (.int .i64 0), (.int .i64 0), (.pointer none), (.pointer none), (.bool false), (.string { data := #[] })])) (by have e1 : a13.eval (.tmp 86) = (.string s.uri) := h86_13; have e2 : a13.eval (.tmp 88) = (.int .i64 s.e) := (u13.w (u12.w h88_11)); have e0 : a13.eval (.tmp 90) = (.string s.title) := h90_13; simp only [List.map_toArray, List.map_cons, List.map_nil, e1, e2, e0]) (by kernel_rfl)) fun a14 u14 F14 h91_14 => ?_
 have h84_14 := u14.w (u13.w (u12.w (u11.w (u10.w (u9.w (u8.w h84_7))))))
 refine wl_cl (args := #[(pt wb), (.agg #[(.string s.title), (.string s.uri), (.int .i64 s.e), (.int .i64 0), (.int .i64 0), (.pointer none), (.pointer none), (.bool false), (.string { data := #[] })])]) (R := fun v w' => v = (.tuple #[]) ∧ WinS w' N0 wb (d.slide (bare s.uri s.title s.e)) ∧ Kt N0 DS w0 w') (ex_cl (fun _ _ => by kernel_rfl) (arg2 h84_14 h91_14)) ((slide_any (s := bare s.uri s.title s.e) (kp2 := none) (mp2 := none) hO hk H_0 (by show s.e ≤ 1000; have := ok.2; omega) .nil .nil).mono fun _ _ h => ⟨_, h.1, rfl, h.2⟩) F14.l ?_
 rintro v w1 ⟨rfl, H_1, KK⟩
 have B17_1 := B17_0.kt KK (by decide)
 have K_1 := K_0.trans (KK.sub (by decide))
 have sr_1 := sr_0.kt KK (by decide) (by decide) (by decide)
 have wr_1 := wr_0.kt KK (by decide)
 have ks_1 := ks_0.kt KK (by decide)
 have ms_1 := ms_0.kt KK (by decide)
 have kq_1 := kq_0.kt KK (by decide)
 have mq_1 := mq_0.kt KK (by decide)
 intro a15 u15 h92_15
 have F15 := F14.pt u15
 clear K_0 H_0 sr_0 wr_0 kq_0 mq_0 KK
 have h7_15 := u15.w (u14.w (u13.w (u12.w (u11.w (u10.w (u9.w (u8.w (u7.w (u6.w (u5.w (u4.w (u3.w (u2.w (u1.w h7_0))))))))))))))
 have h8_15 := u15.w (u14.w (u13.w (u12.w (u11.w (u10.w (u9.w (u8.w (u7.w (u6.w (u5.w (u4.w (u3.w (u2.w (u1.w h8_0))))))))))))))
 have h48_15 := u15.w (u14.w (u13.w (u12.w (u11.w (u10.w (u9.w (u8.w (u7.w (u6.w (u5.w (u4.w (u3.w (u2.w (u1.w h48_0))))))))))))))
 have h49_15 := u15.w (u14.w (u13.w (u12.w (u11.w (u10.w (u9.w (u8.w (u7.w (u6.w (u5.w (u4.w (u3.w (u2.w (u1.w h49_0))))))))))))))
 have h50_15 := u15.w (u14.w (u13.w (u12.w (u11.w (u10.w (u9.w (u8.w (u7.w (u6.w (u5.w (u4.w (u3.w (u2.w (u1.w h50_0))))))))))))))
 have h9_15 := u15.w (u14.w (u13.w (u12.w (u11.w (u10.w (u9.w (u8.w (u7.w h9_6))))))))
 have h10_15 := u15.w (u14.w (u13.w (u12.w (u11.w (u10.w (u9.w (u8.w (u7.w (u6.w (u5.w (u4.w (u3.w (u2.w (u1.w h10_0))))))))))))))
 have h11_15 := u15.w (u14.w (u13.w (u12.w (u11.w (u10.w (u9.w (u8.w (u7.w (u6.w (u5.w (u4.w (u3.w (u2.w (u1.w h11_0))))))))))))))
 have h17_15 := u15.w (u14.w (u13.w (u12.w (u11.w (u10.w (u9.w (u8.w (u7.w (u6.w (u5.w (u4.w (u3.w (u2.w (u1.w h17_0))))))))))))))
 have h18_15 := u15.w (u14.w (u13.w (u12.w (u11.w (u10.w (u9.w (u8.w (u7.w (u6.w (u5.w (u4.w (u3.w (u2.w (u1.w h18_0))))))))))))))
 exact hR ⟨2, s, num⟩ true _ _ ⟨F15, h7_15, h8_15, h48_15, h49_15, h50_15, h9_15, h10_15, h11_15, h17_15, h18_15, K_1, H_1, sr_1, wr_1, ⟨_, _, B17_1, ks_1, ms_1⟩, ⟨by simp, ok, hnum, (fun h => by simp at h), (fun h => by simp at h)⟩, rfl⟩
theorem sw_3 {w00 : World} {N0 wb g16 g17 h k : Nat} {d : WinD} {sv wv : Value} {xs : List StepD} {tl : List Bool} {c7 c8 c48 c49 c50 : Value} {num : Nat} {s : SegD} {kp mp : Option Nat} {kv mv : Value} {a0 : Act} {w0 : World} {R : Exit → Act → World → Prop} (hO : d.Ok k) (hk : k < 900) (hJ : PrJ w00 N0 wb g16 g17 h d sv wv xs tl c7 c8 c48 c49 c50 3 num s kp mp kv mv a0 w0) (hR : ∀ x t a w, SwJ w00 N0 wb g17 d sv wv xs tl c7 c8 c48 c49 c50 x t a w → R .normal a w) : (cat [1, 1, 1, 1, 1, 1, 1, 0, 1, 0, 0, 1, 1, 0, 0, 1, 1, 1, 1, 1, 1, 0, 1] fsB).wp Tryd.prog R a0 w0 := by
 obtain ⟨F0, h7_0, h8_0, h48_0, h49_0, h50_0, h9_0, h10_0, h11_0, h14_0, h15_0, h16_0, h17_0, h18_0, h72_0, K_0, H_0, sr_0, wr_0, B16_0, B17_0, ks_0, ms_0, kq_0, mq_0, ok, hnum, hh, hg16, hg17, hw, hfar⟩ := hJ
 have h14_0 : a0.tmps.getD 14 undef = (.int .i64 3) := h14_0
 have h72_0 : a0.tmps.getD 72 undef = (.int .i64 3) := h72_0
 have B17_0 : Blk w0 g17 44 #[(.int .i64 3), (.int .u64 0), (.string s.title), (.string s.uri), (.float .f64 (fb s.e)), (.int .i64 s.li), (.int .i64 s.off), kv, mv, (.slice none 0 0), (.bool s.disc), (.string s.date), (.int .i64 num)] := B17_0
 change Code.wp _ (Code.block _ _) _ _ _
 obtain ⟨⟨kpw, mpw, swv, nwv, Bw_0, kw_0, mw_0, sw_0, nw_0⟩, hwb, hbw⟩ := H_0
 refine wp_block ?_
 refine wp_sr ?_
 refine wl_pq F0 (ex_bin (vy := (.int .i64 0)) (v := (.bool false)) h72_0 rfl (by kernel_rfl)) fun a1 u1 F1 h74_1 => ?_
 refine wl_pq F1 (ex_as h74_1) fun a2 u2 F2 h73_2 => ?_
 change Code.wp _ _ _ _ _
 refine wp_cond_false h73_2 ?_
 refine wp_sr ?_
 refine wl_pq F2 (ex_bin (vy := (.int .i64 1)) (v := (.bool false)) (u2.w (u1.w h72_0)) rfl (by kernel_rfl)) fun a3 u3 F3 h79_3 => ?_
 refine wl_pq F3 (ex_as h79_3) fun a4 u4 F4 h78_4 => ?_
 change Code.wp _ _ _ _ _
 refine wp_cond_false h78_4 ?_
 refine wp_sr ?_
 have h72_4 := u4.w (u3.w (u2.w (u1.w h72_0)))
 refine wl_pq F4 (ex_bin (vy := (.int .i64 2)) (v := (.bool false)) h72_4 rfl (by kernel_rfl)) fun a5 u5 F5 h83_5 => ?_
 refine wl_pq F5 (ex_as h83_5) fun a6 u6 F6 h82_6 => ?_
 change Code.wp _ _ _ _ _
 refine wp_cond_false h82_6 ?_
 refine wp_sr ?_
 refine wl_pq F6 (ex_bin (vy := (.int .i64 3)) (v := (.bool true)) (u6.w (u5.w h72_4)) rfl (by kernel_rfl)) fun a7 u7 F7 h94_7 => ?_
 refine wl_pq F7 (ex_as h94_7) fun a8 u8 F8 h93_8 => ?_
 change Code.wp _ _ _ _ _
 refine wp_cond_true h93_8 ?_
 refine rg_list ?_
 have h9_8 := u8.w (u7.w (u6.w (u5.w (u4.w (u3.w (u2.w (u1.w h9_0)))))))
 refine wl_pq F8 (ex_mv h9_8) fun a9 u9 F9 h95_9 => ?_
 refine wl_pq F9 (ex_nil h95_9) fun a10 u10 F10 h96_10 => ?_
 refine wl_pq F10 (ex_fb 5 h96_10) fun a11 u11 F11 h97_11 => ?_
 obtain ⟨w1, hr1, Bw_1, G1⟩ := st_run (T := 4) (o := 5) (v := (.bool true)) (cs' := #[(.int .i64 d.places), (.int .i64 d.written), (.int .i64 d.ver), (.int .u64 d.seq), (.int .i64 d.tgt), (.bool true), (.bool d.ifr), (pto kpw), (pto mpw), swv, nwv]) (fun _ => by kernel_rfl) Bw_0 rfl (Nat.le_of_ble_eq_true rfl) rfl
 have B16_1 := B16_0.gk G1 (B16_0.ne_ Bw_0 (by decide))
 have B17_1 := B17_0.gk G1 (B17_0.ne_ Bw_0 (by decide))
 have K_1 := K_0.blk hw Bw_0 hwb (by decide) G1
 have sr_1 := sr_0.kt (Kt.of_blk Bw_0 G1) (by decide) (by decide) (by decide)
 have wr_1 := wr_0.kt (Kt.of_blk Bw_0 G1) (by decide)
 have ks_1 := ks_0.kt (Kt.of_blk Bw_0 G1) (by decide)
 have ms_1 := ms_0.kt (Kt.of_blk Bw_0 G1) (by decide)
 have kq_1 := kq_0.kt (Kt.of_blk Bw_0 G1) (by decide)
 have mq_1 := mq_0.kt (Kt.of_blk Bw_0 G1) (by decide)
 have sw_1 := sw_0.kt (Kt.of_blk Bw_0 G1) (by decide) (by decide) (by decide)
 have nw_1 := nw_0.kt (Kt.of_blk Bw_0 G1) (by decide)
 have kw_1 := kw_0.kt (Kt.of_blk Bw_0 G1) (by decide)
 have mw_1 := mw_0.kt (Kt.of_blk Bw_0 G1) (by decide)
 refine wl_n (ex_st h97_11 rfl hr1) ?_
 clear K_0 sr_0 wr_0 kq_0 mq_0 sw_0 nw_0 kw_0 mw_0
 have h7_11 := u11.w (u10.w (u9.w (u8.w (u7.w (u6.w (u5.w (u4.w (u3.w (u2.w (u1.w h7_0))))))))))
 have h8_11 := u11.w (u10.w (u9.w (u8.w (u7.w (u6.w (u5.w (u4.w (u3.w (u2.w (u1.w h8_0))))))))))
 have h48_11 := u11.w (u10.w (u9.w (u8.w (u7.w (u6.w (u5.w (u4.w (u3.w (u2.w (u1.w h48_0))))))))))
 have h49_11 := u11.w (u10.w (u9.w (u8.w (u7.w (u6.w (u5.w (u4.w (u3.w (u2.w (u1.w h49_0))))))))))
 have h50_11 := u11.w (u10.w (u9.w (u8.w (u7.w (u6.w (u5.w (u4.w (u3.w (u2.w (u1.w h50_0))))))))))
 have h9_11 := u11.w (u10.w (u9.w h9_8))
 have h10_11 := u11.w (u10.w (u9.w (u8.w (u7.w (u6.w (u5.w (u4.w (u3.w (u2.w (u1.w h10_0))))))))))
 have h11_11 := u11.w (u10.w (u9.w (u8.w (u7.w (u6.w (u5.w (u4.w (u3.w (u2.w (u1.w h11_0))))))))))
 have h17_11 := u11.w (u10.w (u9.w (u8.w (u7.w (u6.w (u5.w (u4.w (u3.w (u2.w (u1.w h17_0))))))))))
 have h18_11 := u11.w (u10.w (u9.w (u8.w (u7.w (u6.w (u5.w (u4.w (u3.w (u2.w (u1.w h18_0))))))))))
 exact hR ⟨3, s, num⟩ true _ _ ⟨F11, h7_11, h8_11, h48_11, h49_11, h50_11, h9_11, h10_11, h11_11, h17_11, h18_11, K_1, ⟨⟨_, _, _, _, Bw_1, kw_1, mw_1, sw_1, nw_1⟩, hwb, K_1.le hw⟩, sr_1, wr_1, ⟨_, _, B17_1, ks_1, ms_1⟩, ⟨by simp, ok, hnum, (fun h => by simp at h), (fun h => by simp at h)⟩, rfl⟩
theorem sw_4 {w00 : World} {N0 wb g16 g17 h k : Nat} {d : WinD} {sv wv : Value} {xs : List StepD} {tl : List Bool} {c7 c8 c48 c49 c50 : Value} {num : Nat} {s : SegD} {kp mp : Option Nat} {kv mv : Value} {a0 : Act} {w0 : World} {R : Exit → Act → World → Prop} (hO : d.Ok k) (hk : k < 900) (hJ : PrJ w00 N0 wb g16 g17 h d sv wv xs tl c7 c8 c48 c49 c50 4 num s kp mp kv mv a0 w0) (hR : ∀ x t a w, SwJ w00 N0 wb g17 d sv wv xs tl c7 c8 c48 c49 c50 x t a w → R .normal a w) : (cat [1, 1, 1, 1, 1, 1, 1, 0, 1, 0, 0, 1, 1, 0, 0, 1, 1, 1, 1, 1, 1, 0, 1] fsB).wp Tryd.prog R a0 w0 := by
 obtain ⟨F0, h7_0, h8_0, h48_0, h49_0, h50_0, h9_0, h10_0, h11_0, h14_0, h15_0, h16_0, h17_0, h18_0, h72_0, K_0, H_0, sr_0, wr_0, B16_0, B17_0, ks_0, ms_0, kq_0, mq_0, ok, hnum, hh, hg16, hg17, hw, hfar⟩ := hJ
 have h14_0 : a0.tmps.getD 14 undef = (.int .i64 4) := h14_0
 have h72_0 : a0.tmps.getD 72 undef = (.int .i64 4) := h72_0
 have B17_0 : Blk w0 g17 44 #[(.int .i64 4), (.int .u64 0), (.string s.title), (.string s.uri), (.float .f64 (fb s.e)), (.int .i64 s.li), (.int .i64 s.off), kv, mv, (.slice none 0 0), (.bool s.disc), (.string s.date), (.int .i64 num)] := B17_0
 change Code.wp _ (Code.block _ _) _ _ _
 obtain ⟨⟨kpw, mpw, swv, nwv, Bw_0, kw_0, mw_0, sw_0, nw_0⟩, hwb, hbw⟩ := H_0
 refine wp_block ?_
 refine wp_sr ?_
 refine wl_pq F0 (ex_bin (vy := (.int .i64 0)) (v := (.bool false)) h72_0 rfl (by kernel_rfl)) fun a1 u1 F1 h74_1 => ?_
 refine wl_pq F1 (ex_as h74_1) fun a2 u2 F2 h73_2 => ?_
 change Code.wp _ _ _ _ _
 refine wp_cond_false h73_2 ?_
 refine wp_sr ?_
 refine wl_pq F2 (ex_bin (vy := (.int .i64 1)) (v := (.bool false)) (u2.w (u1.w h72_0)) rfl (by kernel_rfl)) fun a3 u3 F3 h79_3 => ?_
 refine wl_pq F3 (ex_as h79_3) fun a4 u4 F4 h78_4 => ?_
 change Code.wp _ _ _ _ _
 refine wp_cond_false h78_4 ?_
 refine wp_sr ?_
 have h72_4 := u4.w (u3.w (u2.w (u1.w h72_0)))
 refine wl_pq F4 (ex_bin (vy := (.int .i64 2)) (v := (.bool false)) h72_4 rfl (by kernel_rfl)) fun a5 u5 F5 h83_5 => ?_
 refine wl_pq F5 (ex_as h83_5) fun a6 u6 F6 h82_6 => ?_
 change Code.wp _ _ _ _ _
 refine wp_cond_false h82_6 ?_
 refine wp_sr ?_
 refine wl_pq F6 (ex_bin (vy := (.int .i64 3)) (v := (.bool false)) (u6.w (u5.w h72_4)) rfl (by kernel_rfl)) fun a7 u7 F7 h94_7 => ?_
 refine wl_pq F7 (ex_as h94_7) fun a8 u8 F8 h93_8 => ?_
 change Code.wp _ _ _ _ _
 refine wp_cond_false h93_8 ?_
 refine wp_sr ?_
 have h72_8 := u8.w (u7.w (u6.w (u5.w h72_4)))
 refine wl_pq F8 (ex_bin (vy := (.int .i64 4)) (v := (.bool true)) h72_8 rfl (by kernel_rfl)) fun a9 u9 F9 h99_9 => ?_
 refine wl_pq F9 (ex_as h99_9) fun a10 u10 F10 h98_10 => ?_
 change Code.wp _ _ _ _ _
 refine wp_cond_true h98_10 ?_
 refine wp_seq ?_
 obtain ⟨w1, hw1⟩ : ∃ w, w = w0.drew := ⟨_, rfl⟩
 have G1 : w0.grownBy w1 none := hw1 ▸ grown_drew _
 have B16_1 := B16_0.gn G1
 have B17_1 := B17_0.gn G1
 have Bw_1 := Bw_0.gn G1
 have K_1 := K_0.nw hw G1
 have sr_1 := sr_0.kt (Kt.of_none G1) (by decide) (by decide) (by decide)
 have wr_1 := wr_0.kt (Kt.of_none G1) (by decide)
 have ks_1 := ks_0.kt (Kt.of_none G1) (by decide)
 have ms_1 := ms_0.kt (Kt.of_none G1) (by decide)
 have kq_1 := kq_0.kt (Kt.of_none G1) (by decide)
 have mq_1 := mq_0.kt (Kt.of_none G1) (by decide)
 have sw_1 := sw_0.kt (Kt.of_none G1) (by decide) (by decide) (by decide)
 have nw_1 := nw_0.kt (Kt.of_none G1) (by decide)
 have kw_1 := kw_0.kt (Kt.of_none G1) (by decide)
 have mw_1 := mw_0.kt (Kt.of_none G1) (by decide)
 refine rg_still hw1 hmix (by kernel_rfl) ?_
 clear K_0 sr_0 wr_0 kq_0 mq_0 sw_0 nw_0 kw_0 mw_0
 have h17_10 := u10.w (u9.w (u8.w (u7.w (u6.w (u5.w (u4.w (u3.w (u2.w (u1.w h17_0)))))))))
 refine st_pq F10 (ex_fb 12 h17_10) fun a11 u11 F11 h100_11 => ?_
 refine st_pq F11 (ex_le (v := (.int .i64 num)) h100_11 (B17_1.cell 12)) fun a12 u12 F12 h101_12 => ?_
 have h9_12 := u12.w (u11.w (u10.w (u9.w (u8.w (u7.w (u6.w (u5.w (u4.w (u3.w (u2.w (u1.w h9_0)))))))))))
 refine st_pq F12 (ex_mv h9_12) fun a13 u13 F13 h102_13 => ?_
 refine st_pq F13 (ex_nil h102_13) fun a14 u14 F14 h103_14 => ?_
 refine st_pq F14 (ex_fb 0 h103_14) fun a15 u15 F15 h104_15 => ?_
 refine st_pq F15 (ex_le (v := (.int .i64 d.places)) h104_15 (Bw_1.cell 0)) fun a16 u16 F16 h105_16 => ?_
 have h101_16 := u16.w (u15.w (u14.w (u13.w h101_12)))
 refine st_pq F16 (ex_bin (v := (.bool (decide (num ≤ d.places)))) h101_16 h105_16 (bo_len num d.places _)) fun a17 u17 F17 h106_17 => ?_
 refine st_pq F17 (ex_as h106_17) fun a18 u18 F18 h18_18 => ?_
 change Code.wp _ _ _ _ _
 refine wp_sr ?_
 refine wl_pq F18 (ex_mv h18_18) fun a19 u19 F19 h107_19 => ?_
 change Code.wp _ _ _ _ _
 by_cases hq : num ≤ d.places
 · refine wp_cond_true (h107_19.trans (by rw [decide_eq_true hq])) ?_
   refine rg_list ?_
   have h9_19 := u19.w (u18.w (u17.w (u16.w (u15.w (u14.w (u13.w h9_12))))))
   refine wl_pq F19 (ex_mv h9_19) fun a20 u20 F20 h108_20 => ?_
   have h17_20 := u20.w (u19.w (u18.w (u17.w (u16.w (u15.w (u14.w (u13.w (u12.w (u11.w h17_10)))))))))
   refine wl_pq F20 (ex_fb 12 h17_20) fun a21 u21 F21 h109_21 => ?_
   refine wl_pq F21 (ex_le (v := (.int .i64 num)) h109_21 (B17_1.cell 12)) fun a22 u22 F22 h110_22 => ?_
   refine wl_pq F22 (ex_nil (u22.w (u21.w h108_20))) fun a23 u23 F23 h111_23 => ?_
   refine wl_pq F23 (ex_fb 1 h111_23) fun a24 u24 F24 h112_24 => ?_
   obtain ⟨w2, hr2, Bw_2, G2⟩ := st_run (T := 3) (o := 1) (v := (.int .i64 num)) (cs' := #[(.int .i64 d.places), (.int .i64 num), (.int .i64 d.ver), (.int .u64 d.seq), (.int .i64 d.tgt), (.bool d.clo), (.bool d.ifr), (pto kpw), (pto mpw), swv, nwv]) (fun _ => by kernel_rfl) Bw_1 rfl (Nat.le_of_ble_eq_true rfl) rfl
   have B16_2 := B16_1.gk G2 (B16_1.ne_ Bw_1 (by decide))
   have B17_2 := B17_1.gk G2 (B17_1.ne_ Bw_1 (by decide))
   have K_2 := K_1.blk hw Bw_1 hwb (by decide) G2
   have sr_2 := sr_1.kt (Kt.of_blk Bw_1 G2) (by decide) (by decide) (by decide)
   have wr_2 := wr_1.kt (Kt.of_blk Bw_1 G2) (by decide)
   have ks_2 := ks_1.kt (Kt.of_blk Bw_1 G2) (by decide)
   have ms_2 := ms_1.kt (Kt.of_blk Bw_1 G2) (by decide)
   have kq_2 := kq_1.kt (Kt.of_blk Bw_1 G2) (by decide)
   have mq_2 := mq_1.kt (Kt.of_blk Bw_1 G2) (by decide)
   have sw_2 := sw_1.kt (Kt.of_blk Bw_1 G2) (by decide) (by decide) (by decide)
   have nw_2 := nw_1.kt (Kt.of_blk Bw_1 G2) (by decide)
   have kw_2 := kw_1.kt (Kt.of_blk Bw_1 G2) (by decide)
   have mw_2 := mw_1.kt (Kt.of_blk Bw_1 G2) (by decide)
   refine wl_n (ex_st h112_24 (u24.w (u23.w h110_22)) hr2) ?_
   clear K_1 sr_1 wr_1 kq_1 mq_1 sw_1 nw_1 kw_1 mw_1
   have h7_24 := u24.w (u23.w (u22.w (u21.w (u20.w (u19.w (u18.w (u17.w (u16.w (u15.w (u14.w (u13.w (u12.w (u11.w (u10.w (u9.w (u8.w (u7.w (u6.w (u5.w (u4.w (u3.w (u2.w (u1.w h7_0)))))))))))))))))))))))
   have h8_24 := u24.w (u23.w (u22.w (u21.w (u20.w (u19.w (u18.w (u17.w (u16.w (u15.w (u14.w (u13.w (u12.w (u11.w (u10.w (u9.w (u8.w (u7.w (u6.w (u5.w (u4.w (u3.w (u2.w (u1.w h8_0)))))))))))))))))))))))
   have h48_24 := u24.w (u23.w (u22.w (u21.w (u20.w (u19.w (u18.w (u17.w (u16.w (u15.w (u14.w (u13.w (u12.w (u11.w (u10.w (u9.w (u8.w (u7.w (u6.w (u5.w (u4.w (u3.w (u2.w (u1.w h48_0)))))))))))))))))))))))
   have h49_24 := u24.w (u23.w (u22.w (u21.w (u20.w (u19.w (u18.w (u17.w (u16.w (u15.w (u14.w (u13.w (u12.w (u11.w (u10.w (u9.w (u8.w (u7.w (u6.w (u5.w (u4.w (u3.w (u2.w (u1.w h49_0)))))))))))))))))))))))
   have h50_24 := u24.w (u23.w (u22.w (u21.w (u20.w (u19.w (u18.w (u17.w (u16.w (u15.w (u14.w (u13.w (u12.w (u11.w (u10.w (u9.w (u8.w (u7.w (u6.w (u5.w (u4.w (u3.w (u2.w (u1.w h50_0)))))))))))))))))))))))
   have h9_24 := u24.w (u23.w (u22.w (u21.w (u20.w h9_19))))
   have h10_24 := u24.w (u23.w (u22.w (u21.w (u20.w (u19.w (u18.w (u17.w (u16.w (u15.w (u14.w (u13.w (u12.w (u11.w (u10.w (u9.w (u8.w (u7.w (u6.w (u5.w (u4.w (u3.w (u2.w (u1.w h10_0)))))))))))))))))))))))
   have h11_24 := u24.w (u23.w (u22.w (u21.w (u20.w (u19.w (u18.w (u17.w (u16.w (u15.w (u14.w (u13.w (u12.w (u11.w (u10.w (u9.w (u8.w (u7.w (u6.w (u5.w (u4.w (u3.w (u2.w (u1.w h11_0)))))))))))))))))))))))
   have h17_24 := u24.w (u23.w (u22.w (u21.w h17_20)))
   have h18_24 := u24.w (u23.w (u22.w (u21.w (u20.w (u19.w h18_18)))))
   exact hR ⟨4, s, num⟩ (decide (num ≤ d.places)) _ _ ⟨F24, h7_24, h8_24, h48_24, h49_24, h50_24, h9_24, h10_24, h11_24, h17_24, h18_24, K_2, (by show WinS _ _ _ (d.swin num); unfold WinD.swin; rw [if_pos hq]; exact ⟨⟨_, _, _, _, Bw_2, kw_2, mw_2, sw_2, nw_2⟩, hwb, K_2.le hw⟩), sr_2, wr_2, ⟨_, _, B17_2, ks_2, ms_2⟩, ⟨by simp, ok, hnum, (fun h => by simp at h), (fun h => by simp at h)⟩, rfl⟩
 · refine wp_cond_false (h107_19.trans (by rw [decide_eq_false hq])) ?_
   refine wp_skip ?_
   have h7_19 := u19.w (u18.w (u17.w (u16.w (u15.w (u14.w (u13.w (u12.w (u11.w (u10.w (u9.w (u8.w (u7.w (u6.w (u5.w (u4.w (u3.w (u2.w (u1.w h7_0))))))))))))))))))
   have h8_19 := u19.w (u18.w (u17.w (u16.w (u15.w (u14.w (u13.w (u12.w (u11.w (u10.w (u9.w (u8.w (u7.w (u6.w (u5.w (u4.w (u3.w (u2.w (u1.w h8_0))))))))))))))))))
   have h48_19 := u19.w (u18.w (u17.w (u16.w (u15.w (u14.w (u13.w (u12.w (u11.w (u10.w (u9.w (u8.w (u7.w (u6.w (u5.w (u4.w (u3.w (u2.w (u1.w h48_0))))))))))))))))))
   have h49_19 := u19.w (u18.w (u17.w (u16.w (u15.w (u14.w (u13.w (u12.w (u11.w (u10.w (u9.w (u8.w (u7.w (u6.w (u5.w (u4.w (u3.w (u2.w (u1.w h49_0))))))))))))))))))
   have h50_19 := u19.w (u18.w (u17.w (u16.w (u15.w (u14.w (u13.w (u12.w (u11.w (u10.w (u9.w (u8.w (u7.w (u6.w (u5.w (u4.w (u3.w (u2.w (u1.w h50_0))))))))))))))))))
   have h9_19 := u19.w (u18.w (u17.w (u16.w (u15.w (u14.w (u13.w h9_12))))))
   have h10_19 := u19.w (u18.w (u17.w (u16.w (u15.w (u14.w (u13.w (u12.w (u11.w (u10.w (u9.w (u8.w (u7.w (u6.w (u5.w (u4.w (u3.w (u2.w (u1.w h10_0))))))))))))))))))
   have h11_19 := u19.w (u18.w (u17.w (u16.w (u15.w (u14.w (u13.w (u12.w (u11.w (u10.w (u9.w (u8.w (u7.w (u6.w (u5.w (u4.w (u3.w (u2.w (u1.w h11_0))))))))))))))))))
   have h17_19 := u19.w (u18.w (u17.w (u16.w (u15.w (u14.w (u13.w (u12.w (u11.w h17_10))))))))
   exact hR ⟨4, s, num⟩ (decide (num ≤ d.places)) _ _ ⟨F19, h7_19, h8_19, h48_19, h49_19, h50_19, h9_19, h10_19, h11_19, h17_19, (u19.w h18_18), K_1, (by show WinS _ _ _ (d.swin num); unfold WinD.swin; rw [if_neg hq]; exact ⟨⟨_, _, _, _, Bw_1, kw_1, mw_1, sw_1, nw_1⟩, hwb, K_1.le hw⟩), sr_1, wr_1, ⟨_, _, B17_1, ks_1, ms_1⟩, ⟨by simp, ok, hnum, (fun h => by simp at h), (fun h => by simp at h)⟩, rfl⟩
theorem sw_5 {w00 : World} {N0 wb g16 g17 h k : Nat} {d : WinD} {sv wv : Value} {xs : List StepD} {tl : List Bool} {c7 c8 c48 c49 c50 : Value} {num : Nat} {s : SegD} {kp mp : Option Nat} {kv mv : Value} {a0 : Act} {w0 : World} {R : Exit → Act → World → Prop} (hO : d.Ok k) (hk : k < 900) (hJ : PrJ w00 N0 wb g16 g17 h d sv wv xs tl c7 c8 c48 c49 c50 5 num s kp mp kv mv a0 w0) (hR : ∀ x t a w, SwJ w00 N0 wb g17 d sv wv xs tl c7 c8 c48 c49 c50 x t a w → R .normal a w) : (cat [1, 1, 1, 1, 1, 1, 1, 0, 1, 0, 0, 1, 1, 0, 0, 1, 1, 1, 1, 1, 1, 0, 1] fsB).wp Tryd.prog R a0 w0 := by
 obtain ⟨F0, h7_0, h8_0, h48_0, h49_0, h50_0, h9_0, h10_0, h11_0, h14_0, h15_0, h16_0, h17_0, h18_0, h72_0, K_0, H_0, sr_0, wr_0, B16_0, B17_0, ks_0, ms_0, kq_0, mq_0, ok, hnum, hh, hg16, hg17, hw, hfar⟩ := hJ
 have h14_0 : a0.tmps.getD 14 undef = (.int .i64 5) := h14_0
 have h72_0 : a0.tmps.getD 72 undef = (.int .i64 5) := h72_0
 have B17_0 : Blk w0 g17 44 #[(.int .i64 5), (.int .u64 0), (.string s.title), (.string s.uri), (.float .f64 (fb s.e)), (.int .i64 s.li), (.int .i64 s.off), kv, mv, (.slice none 0 0), (.bool s.disc), (.string s.date), (.int .i64 num)] := B17_0
 change Code.wp _ (Code.block _ _) _ _ _
 refine wp_block ?_
 refine wp_sr ?_
 refine wl_pq F0 (ex_bin (vy := (.int .i64 0)) (v := (.bool false)) h72_0 rfl (by kernel_rfl)) fun a1 u1 F1 h74_1 => ?_
 refine wl_pq F1 (ex_as h74_1) fun a2 u2 F2 h73_2 => ?_
 change Code.wp _ _ _ _ _
 refine wp_cond_false h73_2 ?_
 refine wp_sr ?_
 refine wl_pq F2 (ex_bin (vy := (.int .i64 1)) (v := (.bool false)) (u2.w (u1.w h72_0)) rfl (by kernel_rfl)) fun a3 u3 F3 h79_3 => ?_
 refine wl_pq F3 (ex_as h79_3) fun a4 u4 F4 h78_4 => ?_
 change Code.wp _ _ _ _ _
 refine wp_cond_false h78_4 ?_
 refine wp_sr ?_
 have h72_4 := u4.w (u3.w (u2.w (u1.w h72_0)))
 refine wl_pq F4 (ex_bin (vy := (.int .i64 2)) (v := (.bool false)) h72_4 rfl (by kernel_rfl)) fun a5 u5 F5 h83_5 => ?_
 refine wl_pq F5 (ex_as h83_5) fun a6 u6 F6 h82_6 => ?_
 change Code.wp _ _ _ _ _
 refine wp_cond_false h82_6 ?_
 refine wp_sr ?_
 refine wl_pq F6 (ex_bin (vy := (.int .i64 3)) (v := (.bool false)) (u6.w (u5.w h72_4)) rfl (by kernel_rfl)) fun a7 u7 F7 h94_7 => ?_
 refine wl_pq F7 (ex_as h94_7) fun a8 u8 F8 h93_8 => ?_
 change Code.wp _ _ _ _ _
 refine wp_cond_false h93_8 ?_
 refine wp_sr ?_
 have h72_8 := u8.w (u7.w (u6.w (u5.w h72_4)))
 refine wl_pq F8 (ex_bin (vy := (.int .i64 4)) (v := (.bool false)) h72_8 rfl (by kernel_rfl)) fun a9 u9 F9 h99_9 => ?_
 refine wl_pq F9 (ex_as h99_9) fun a10 u10 F10 h98_10 => ?_
 change Code.wp _ _ _ _ _
 refine wp_cond_false h98_10 ?_
 refine wp_seq ?_
 refine wp_sr ?_
 refine wl_pq F10 (ex_bin (vy := (.int .i64 5)) (v := (.bool true)) (u10.w (u9.w h72_8)) rfl (by kernel_rfl)) fun a11 u11 F11 h114_11 => ?_
 refine wl_pq F11 (ex_as h114_11) fun a12 u12 F12 h113_12 => ?_
 change Code.wp _ _ _ _ _
 refine wp_cond_true h113_12 ?_
 refine wp_skip ?_
 change Code.wp _ _ _ _ _
 refine wp_cond_true h113_12 ?_
 refine wp_sr ?_
 have h15_12 := u12.w (u11.w (u10.w (u9.w (u8.w (u7.w (u6.w (u5.w (u4.w (u3.w (u2.w (u1.w h15_0)))))))))))
 refine wl_pq F12 (ex_mv h15_12) fun a13 u13 F13 h116_13 => ?_
 refine wl_pq F13 (ex_bin (vy := (.int .u32 2)) (v := (.int .u32 (h % 2 : Nat))) h116_13 rfl (uu_rem h 2 (by decide) _)) fun a14 u14 F14 h117_14 => ?_
 refine wl_pq F14 (ex_bin (vy := (.int .u32 1)) (v := (.int .u32 ((h % 2 : Nat) + 1 : Nat))) h117_14 rfl (uu_add (h % 2 : Nat) 1 (by omega) _)) fun a15 u15 F15 h118_15 => ?_
 refine wl_cl (args := #[(.int .u32 ((h % 2 : Nat) + 1 : Nat))]) (R := fun v w' => ∃ p k, v = pt p ∧ Blk w' p 56 (keyC k) ∧ k.Ok ∧ KV k ∧ w0.grownBy w' none) (ex_cl (fun _ _ => by kernel_rfl) (arg1 h118_15)) ((keyOf_12 ((h % 2 : Nat) + 1 : Nat) (by omega) (by omega) (by omega) _).mono fun _ _ ⟨p, k, h, r⟩ => ⟨_, h, p, k, rfl, r⟩) F15.l ?_
 rintro v w1 ⟨pk, q, rfl, Bk_1, hq, hv, G1⟩
 have B16_1 := B16_0.gn G1
 have B17_1 := B17_0.gn G1
 have K_1 := K_0.nw hw G1
 have H_1 := H_0.kt (Kt.of_none G1) (by decide)
 have sr_1 := sr_0.kt (Kt.of_none G1) (by decide) (by decide) (by decide)
 have wr_1 := wr_0.kt (Kt.of_none G1) (by decide)
 have ks_1 := ks_0.kt (Kt.of_none G1) (by decide)
 have ms_1 := ms_0.kt (Kt.of_none G1) (by decide)
 have kq_1 := kq_0.kt (Kt.of_none G1) (by decide)
 have mq_1 := mq_0.kt (Kt.of_none G1) (by decide)
 intro a16 u16 h119_16
 have F16 := F15.pt u16
 clear K_0 H_0 sr_0 wr_0 kq_0 mq_0
 refine wl_pq F16 (ex_as h119_16) fun a17 u17 F17 h19_17 => ?_
 change Code.wp _ _ _ _ _
 refine wp_sr ?_
 refine wl_pq F17 (ex_mv h19_17) fun a18 u18 F18 h120_18 => ?_
 refine wl_cl (args := #[(.pointer (some ⟨pk, 0, none⟩))]) (R := fun v w' => KeySl w' v (some q) ∧ w1.grownBy w' none) (ex_cl (fun _ _ => by kernel_rfl) (arg1 h120_18)) ((toKeys_any (kp := some pk) (.mk Bk_1 hq)).mono fun _ _ h => h) F18.l ?_
 rintro kv2 w2 ⟨ks_2, G2⟩
 have B16_2 := B16_1.gn G2
 have B17_2 := B17_1.gn G2
 have Bk_2 := Bk_1.gn G2
 have K_2 := K_1.nw hw G2
 have H_2 := H_1.kt (Kt.of_none G2) (by decide)
 have sr_2 := sr_1.kt (Kt.of_none G2) (by decide) (by decide) (by decide)
 have wr_2 := wr_1.kt (Kt.of_none G2) (by decide)
 have ms_2 := ms_1.kt (Kt.of_none G2) (by decide)
 have kq_2 := kq_1.kt (Kt.of_none G2) (by decide)
 have mq_2 := mq_1.kt (Kt.of_none G2) (by decide)
 obtain ⟨k2a, k2n, k2c, rfl⟩ := ks_2.shape
 intro a19 u19 h121_19
 have F19 := F18.pt u19
 clear K_1 H_1 sr_1 wr_1 kq_1 mq_1
 have h17_19 := u19.w (u18.w (u17.w (u16.w (u15.w (u14.w (u13.w (u12.w (u11.w (u10.w (u9.w (u8.w (u7.w (u6.w (u5.w (u4.w (u3.w (u2.w (u1.w h17_0))))))))))))))))))
 refine wl_pq F19 (ex_fb 1 h17_19) fun a20 u20 F20 h122_20 => ?_
 refine wl_pq F20 (ex_fag (vx := (.pointer (some ⟨g17, 1, none⟩))) (v := (.pointer (some ⟨g17, 7, none⟩))) h122_20 (by kernel_rfl)) fun a21 u21 F21 h123_21 => ?_
 obtain ⟨w3, hr3, B17_3, G3⟩ := st_run (T := 36) (o := 7) (v := (.slice k2a k2n k2c)) (cs' := #[(.int .i64 5), (.int .u64 0), (.string s.title), (.string s.uri), (.float .f64 (fb s.e)), (.int .i64 s.li), (.int .i64 s.off), (.slice k2a k2n k2c), mv, (.slice none 0 0), (.bool s.disc), (.string s.date), (.int .i64 num)]) (fun _ => by kernel_rfl) B17_2 rfl (Nat.le_of_ble_eq_true rfl) rfl
 have B16_3 := B16_2.gk G3 (B16_2.ne_ B17_2 (by decide))
 have Bk_3 := Bk_2.gk G3 (Bk_2.ne_ B17_2 (by decide))
 have K_3 := K_2.blk hw B17_2 hg17 (by decide) G3
 have H_3 := H_2.kt (Kt.of_blk B17_2 G3) (by decide)
 have sr_3 := sr_2.gfar B17_2 (by decide) (by decide) hfar G3
 have wr_3 := wr_2.kt (Kt.of_blk B17_2 G3) (by decide)
 have ms_3 := ms_2.kt (Kt.of_blk B17_2 G3) (by decide)
 have kq_3 := kq_2.kt (Kt.of_blk B17_2 G3) (by decide)
 have mq_3 := mq_2.kt (Kt.of_blk B17_2 G3) (by decide)
 have ks_3 := ks_2.kt (Kt.of_blk B17_2 G3) (by decide)
 refine wl_n (ex_st h123_21 (u21.w (u20.w h121_19)) hr3) ?_
 clear K_2 H_2 sr_2 wr_2 kq_2 mq_2
 change Code.wp _ _ _ _ _
 refine rg_list ?_
 have h9_21 := u21.w (u20.w (u19.w (u18.w (u17.w (u16.w (u15.w (u14.w (u13.w (u12.w (u11.w (u10.w (u9.w (u8.w (u7.w (u6.w (u5.w (u4.w (u3.w (u2.w (u1.w h9_0))))))))))))))))))))
 refine wl_pq F21 (ex_mv h9_21) fun a22 u22 F22 h124_22 => ?_
 have h19_22 := u22.w (u21.w (u20.w (u19.w (u18.w h19_17))))
 refine wl_pq F22 (ex_mv h19_22) fun a23 u23 F23 h125_23 => ?_
 refine wl_pq F23 (ex_nil h125_23) fun a24 u24 F24 h126_24 => ?_
 refine wl_pq F24 (ex_lda h126_24 (ld_agg (n := 5) (xs := #[(.string q.me), (.string q.uri), (.string q.iv), (.string q.fo), (.string q.ve)]) (fun _ => by kernel_rfl) (fun _ => by kernel_rfl) Bk_3 rfl (fun _ _ => by rw [Nat.zero_add] <;> rfl))) fun a25 u25 F25 (h127_25 : a25.tmps.getD 127 undef = (.agg #[(.string q.me), (.string q.uri), (.string q.iv), (.string q.fo), (.string q.ve)])) => ?_
 have h14_25 := u25.w (u24.w (u23.w (u22.w (u21.w (u20.w (u19.w (u18.w (u17.w (u16.w (u15.w (u14.w (u13.w (u12.w (u11.w (u10.w (u9.w (u8.w (u7.w (u6.w (u5.w (u4.w (u3.w (u2.w (u1.w h14_0))))))))))))))))))))))))
 refine wl_pq F25 (ex_mv h14_25) fun a26 u26 F26 h128_26 => ?_
 refine wl_pq F26 (ex_bin (vy := (.int .i64 11)) (v := (.bool false)) h128_26 rfl (by kernel_rfl)) fun a27 u27 F27 h129_27 => ?_
 have h124_27 := u27.w (u26.w (u25.w (u24.w (u23.w h124_22))))
 refine wl_cl (args := #[(pt wb), (.agg #[(.string q.me), (.string q.uri), (.string q.iv), (.string q.fo), (.string q.ve)]), (.bool false)]) (R := fun v w' => v = (.bool (decide (d.segs.length ≠ 0))) ∧ WinS w' N0 wb (d.lockL q) ∧ Kt N0 DS w3 w') (ex_cl (fun _ _ => by kernel_rfl) (arg3 h124_27 (u27.w (u26.w h127_25)) h129_27)) ((lock_one hO H_3 hq hv).mono fun _ _ h => ⟨_, h.1, rfl, h.2⟩) F27.l ?_
 rintro v w4 ⟨rfl, H_4, KK⟩
 have B17_4 := B17_3.kt KK (by decide)
 have Bk_4 := Bk_3.kt KK (by decide)
 have K_4 := K_3.trans (KK.sub (by decide))
 have sr_4 := sr_3.kt KK (by decide) (by decide) (by decide)
 have wr_4 := wr_3.kt KK (by decide)
 have ms_4 := ms_3.kt KK (by decide)
 have kq_4 := kq_3.kt KK (by decide)
 have mq_4 := mq_3.kt KK (by decide)
 have ks_4 := ks_3.kt KK (by decide)
 intro a28 u28 h130_28
 have F28 := F27.pt u28
 clear K_3 H_3 sr_3 wr_3 kq_3 mq_3 KK
 refine wl_pq F28 (ex_as h130_28) fun a29 u29 F29 h18_29 => ?_
 have h7_29 := u29.w (u28.w (u27.w (u26.w (u25.w (u24.w (u23.w (u22.w (u21.w (u20.w (u19.w (u18.w (u17.w (u16.w (u15.w (u14.w (u13.w (u12.w (u11.w (u10.w (u9.w (u8.w (u7.w (u6.w (u5.w (u4.w (u3.w (u2.w (u1.w h7_0))))))))))))))))))))))))))))
 have h8_29 := u29.w (u28.w (u27.w (u26.w (u25.w (u24.w (u23.w (u22.w (u21.w (u20.w (u19.w (u18.w (u17.w (u16.w (u15.w (u14.w (u13.w (u12.w (u11.w (u10.w (u9.w (u8.w (u7.w (u6.w (u5.w (u4.w (u3.w (u2.w (u1.w h8_0))))))))))))))))))))))))))))
 have h48_29 := u29.w (u28.w (u27.w (u26.w (u25.w (u24.w (u23.w (u22.w (u21.w (u20.w (u19.w (u18.w (u17.w (u16.w (u15.w (u14.w (u13.w (u12.w (u11.w (u10.w (u9.w (u8.w (u7.w (u6.w (u5.w (u4.w (u3.w (u2.w (u1.w h48_0))))))))))))))))))))))))))))
 have h49_29 := u29.w (u28.w (u27.w (u26.w (u25.w (u24.w (u23.w (u22.w (u21.w (u20.w (u19.w (u18.w (u17.w (u16.w (u15.w (u14.w (u13.w (u12.w (u11.w (u10.w (u9.w (u8.w (u7.w (u6.w (u5.w (u4.w (u3.w (u2.w (u1.w h49_0))))))))))))))))))))))))))))
 have h50_29 := u29.w (u28.w (u27.w (u26.w (u25.w (u24.w (u23.w (u22.w (u21.w (u20.w (u19.w (u18.w (u17.w (u16.w (u15.w (u14.w (u13.w (u12.w (u11.w (u10.w (u9.w (u8.w (u7.w (u6.w (u5.w (u4.w (u3.w (u2.w (u1.w h50_0))))))))))))))))))))))))))))
 have h9_29 := u29.w (u28.w (u27.w (u26.w (u25.w (u24.w (u23.w (u22.w h9_21)))))))
 have h10_29 := u29.w (u28.w (u27.w (u26.w (u25.w (u24.w (u23.w (u22.w (u21.w (u20.w (u19.w (u18.w (u17.w (u16.w (u15.w (u14.w (u13.w (u12.w (u11.w (u10.w (u9.w (u8.w (u7.w (u6.w (u5.w (u4.w (u3.w (u2.w (u1.w h10_0))))))))))))))))))))))))))))
 have h11_29 := u29.w (u28.w (u27.w (u26.w (u25.w (u24.w (u23.w (u22.w (u21.w (u20.w (u19.w (u18.w (u17.w (u16.w (u15.w (u14.w (u13.w (u12.w (u11.w (u10.w (u9.w (u8.w (u7.w (u6.w (u5.w (u4.w (u3.w (u2.w (u1.w h11_0))))))))))))))))))))))))))))
 have h17_29 := u29.w (u28.w (u27.w (u26.w (u25.w (u24.w (u23.w (u22.w (u21.w (u20.w h17_19)))))))))
 exact hR ⟨5, { s with key := some q }, num⟩ (decide (d.segs.length ≠ 0)) _ _ ⟨F29, h7_29, h8_29, h48_29, h49_29, h50_29, h9_29, h10_29, h11_29, h17_29, h18_29, K_4, H_4, sr_4, wr_4, ⟨_, _, B17_4, ks_4, ms_4⟩, ⟨by simp, ⟨⟨ok.1.title, ok.1.uri, ok.1.date, ok.1.li, ok.1.off, fun _ e => by cases e; exact hq, ok.1.map⟩, ok.2⟩, hnum, (fun _ => ⟨q, rfl, hv⟩), (fun h => by simp at h)⟩, rfl⟩
theorem sw_6 {w00 : World} {N0 wb g16 g17 h k : Nat} {d : WinD} {sv wv : Value} {xs : List StepD} {tl : List Bool} {c7 c8 c48 c49 c50 : Value} {num : Nat} {s : SegD} {kp mp : Option Nat} {kv mv : Value} {a0 : Act} {w0 : World} {R : Exit → Act → World → Prop} (hO : d.Ok k) (hk : k < 900) (hJ : PrJ w00 N0 wb g16 g17 h d sv wv xs tl c7 c8 c48 c49 c50 6 num s kp mp kv mv a0 w0) (hR : ∀ x t a w, SwJ w00 N0 wb g17 d sv wv xs tl c7 c8 c48 c49 c50 x t a w → R .normal a w) : (cat [1, 1, 1, 1, 1, 1, 1, 0, 1, 0, 0, 1, 1, 0, 0, 1, 1, 1, 1, 1, 1, 0, 1] fsB).wp Tryd.prog R a0 w0 := by
 obtain ⟨F0, h7_0, h8_0, h48_0, h49_0, h50_0, h9_0, h10_0, h11_0, h14_0, h15_0, h16_0, h17_0, h18_0, h72_0, K_0, H_0, sr_0, wr_0, B16_0, B17_0, ks_0, ms_0, kq_0, mq_0, ok, hnum, hh, hg16, hg17, hw, hfar⟩ := hJ
 have h14_0 : a0.tmps.getD 14 undef = (.int .i64 6) := h14_0
 have h72_0 : a0.tmps.getD 72 undef = (.int .i64 6) := h72_0
 have B17_0 : Blk w0 g17 44 #[(.int .i64 6), (.int .u64 0), (.string s.title), (.string s.uri), (.float .f64 (fb s.e)), (.int .i64 s.li), (.int .i64 s.off), kv, mv, (.slice none 0 0), (.bool s.disc), (.string s.date), (.int .i64 num)] := B17_0
 change Code.wp _ (Code.block _ _) _ _ _
 refine wp_block ?_
 refine wp_sr ?_
 refine wl_pq F0 (ex_bin (vy := (.int .i64 0)) (v := (.bool false)) h72_0 rfl (by kernel_rfl)) fun a1 u1 F1 h74_1 => ?_
 refine wl_pq F1 (ex_as h74_1) fun a2 u2 F2 h73_2 => ?_
 change Code.wp _ _ _ _ _
 refine wp_cond_false h73_2 ?_
 refine wp_sr ?_
 refine wl_pq F2 (ex_bin (vy := (.int .i64 1)) (v := (.bool false)) (u2.w (u1.w h72_0)) rfl (by kernel_rfl)) fun a3 u3 F3 h79_3 => ?_
 refine wl_pq F3 (ex_as h79_3) fun a4 u4 F4 h78_4 => ?_
 change Code.wp _ _ _ _ _
 refine wp_cond_false h78_4 ?_
 refine wp_sr ?_
 have h72_4 := u4.w (u3.w (u2.w (u1.w h72_0)))
 refine wl_pq F4 (ex_bin (vy := (.int .i64 2)) (v := (.bool false)) h72_4 rfl (by kernel_rfl)) fun a5 u5 F5 h83_5 => ?_
 refine wl_pq F5 (ex_as h83_5) fun a6 u6 F6 h82_6 => ?_
 change Code.wp _ _ _ _ _
 refine wp_cond_false h82_6 ?_
 refine wp_sr ?_
 refine wl_pq F6 (ex_bin (vy := (.int .i64 3)) (v := (.bool false)) (u6.w (u5.w h72_4)) rfl (by kernel_rfl)) fun a7 u7 F7 h94_7 => ?_
 refine wl_pq F7 (ex_as h94_7) fun a8 u8 F8 h93_8 => ?_
 change Code.wp _ _ _ _ _
 refine wp_cond_false h93_8 ?_
 refine wp_sr ?_
 have h72_8 := u8.w (u7.w (u6.w (u5.w h72_4)))
 refine wl_pq F8 (ex_bin (vy := (.int .i64 4)) (v := (.bool false)) h72_8 rfl (by kernel_rfl)) fun a9 u9 F9 h99_9 => ?_
 refine wl_pq F9 (ex_as h99_9) fun a10 u10 F10 h98_10 => ?_
 change Code.wp _ _ _ _ _
 refine wp_cond_false h98_10 ?_
 refine wp_seq ?_
 refine wp_sr ?_
 refine wl_pq F10 (ex_bin (vy := (.int .i64 5)) (v := (.bool false)) (u10.w (u9.w h72_8)) rfl (by kernel_rfl)) fun a11 u11 F11 h114_11 => ?_
 refine wl_pq F11 (ex_as h114_11) fun a12 u12 F12 h113_12 => ?_
 change Code.wp _ _ _ _ _
 refine wp_cond_false h113_12 ?_
 refine rg_list ?_
 have h72_12 := u12.w (u11.w (u10.w (u9.w h72_8)))
 refine wl_pq F12 (ex_bin (vy := (.int .i64 11)) (v := (.bool false)) h72_12 rfl (by kernel_rfl)) fun a13 u13 F13 h115_13 => ?_
 refine wl_pq F13 (ex_as h115_13) fun a14 u14 F14 h113_14 => ?_
 change Code.wp _ _ _ _ _
 refine wp_cond_false h113_14 ?_
 refine wp_seq ?_
 refine wp_sr ?_
 refine wl_pq F14 (ex_bin (vy := (.int .i64 6)) (v := (.bool true)) (u14.w (u13.w h72_12)) rfl (by kernel_rfl)) fun a15 u15 F15 h132_15 => ?_
 refine wl_pq F15 (ex_as h132_15) fun a16 u16 F16 h131_16 => ?_
 change Code.wp _ _ _ _ _
 refine wp_cond_true h131_16 ?_
 refine wp_skip ?_
 change Code.wp _ _ _ _ _
 refine wp_cond_true h131_16 ?_
 refine wp_sr ?_
 have h15_16 := u16.w (u15.w (u14.w (u13.w (u12.w (u11.w (u10.w (u9.w (u8.w (u7.w (u6.w (u5.w (u4.w (u3.w (u2.w (u1.w h15_0)))))))))))))))
 refine wl_pq F16 (ex_mv h15_16) fun a17 u17 F17 h134_17 => ?_
 refine wl_pq F17 (ex_bin (vy := (.int .u32 2)) (v := (.int .u32 (h % 2 : Nat))) h134_17 rfl (uu_rem h 2 (by decide) _)) fun a18 u18 F18 h135_18 => ?_
 refine wl_cl (args := #[(.int .u32 (h % 2 : Nat))]) (R := fun v w' => ∃ kp m, v = pto kp ∧ SMap w' kp m ∧ w0.grownBy w' none ∧ (((h % 2 : Nat) : Int) % 3 < 2 → kp ≠ none)) (ex_cl (fun _ _ => by kernel_rfl) (arg1 h135_18)) ((mapOf_any (h % 2 : Nat) (by omega) (by omega) _).mono fun _ _ ⟨p, k, h, r⟩ => ⟨_, h, p, k, rfl, r⟩) F18.l ?_
 rintro v w1 ⟨kq2, mm, rfl, hsm, G1, hne⟩
 have B16_1 := B16_0.gn G1
 have B17_1 := B17_0.gn G1
 have K_1 := K_0.nw hw G1
 have H_1 := H_0.kt (Kt.of_none G1) (by decide)
 have sr_1 := sr_0.kt (Kt.of_none G1) (by decide) (by decide) (by decide)
 have wr_1 := wr_0.kt (Kt.of_none G1) (by decide)
 have ks_1 := ks_0.kt (Kt.of_none G1) (by decide)
 have ms_1 := ms_0.kt (Kt.of_none G1) (by decide)
 have kq_1 := kq_0.kt (Kt.of_none G1) (by decide)
 have mq_1 := mq_0.kt (Kt.of_none G1) (by decide)
 obtain ⟨pk, q, rfl, hkm, Bk_1, hq⟩ : ∃ p q, kq2 = some p ∧ mm = some q ∧ Blk w1 p 61 (mapC q) ∧ q.Ok := by
   cases hsm with
   | nil => exact absurd rfl (hne (by omega))
   | mk h ok => exact ⟨_, _, rfl, rfl, h, ok⟩
 intro a19 u19 h136_19
 have F19 := F18.pt u19
 clear K_0 H_0 sr_0 wr_0 kq_0 mq_0
 refine wl_pq F19 (ex_as h136_19) fun a20 u20 F20 h20_20 => ?_
 change Code.wp _ _ _ _ _
 refine wp_sr ?_
 refine wl_pq F20 (ex_mv h20_20) fun a21 u21 F21 h137_21 => ?_
 refine wl_cl (args := #[(.pointer (some ⟨pk, 0, none⟩))]) (R := fun v w' => MapSl w' v (some q) ∧ w1.grownBy w' none) (ex_cl (fun _ _ => by kernel_rfl) (arg1 h137_21)) ((toMaps_any (kp := some pk) (.mk Bk_1 hq)).mono fun _ _ h => h) F21.l ?_
 rintro kv2 w2 ⟨ms_2, G2⟩
 have B16_2 := B16_1.gn G2
 have B17_2 := B17_1.gn G2
 have Bk_2 := Bk_1.gn G2
 have K_2 := K_1.nw hw G2
 have H_2 := H_1.kt (Kt.of_none G2) (by decide)
 have sr_2 := sr_1.kt (Kt.of_none G2) (by decide) (by decide) (by decide)
 have wr_2 := wr_1.kt (Kt.of_none G2) (by decide)
 have ks_2 := ks_1.kt (Kt.of_none G2) (by decide)
 have kq_2 := kq_1.kt (Kt.of_none G2) (by decide)
 have mq_2 := mq_1.kt (Kt.of_none G2) (by decide)
 obtain ⟨k2a, k2n, k2c, rfl⟩ := ms_2.shape
 intro a22 u22 h138_22
 have F22 := F21.pt u22
 clear K_1 H_1 sr_1 wr_1 kq_1 mq_1
 have h17_22 := u22.w (u21.w (u20.w (u19.w (u18.w (u17.w (u16.w (u15.w (u14.w (u13.w (u12.w (u11.w (u10.w (u9.w (u8.w (u7.w (u6.w (u5.w (u4.w (u3.w (u2.w (u1.w h17_0)))))))))))))))))))))
 refine wl_pq F22 (ex_fb 1 h17_22) fun a23 u23 F23 h139_23 => ?_
 refine wl_pq F23 (ex_fag (vx := (.pointer (some ⟨g17, 1, none⟩))) (v := (.pointer (some ⟨g17, 8, none⟩))) h139_23 (by kernel_rfl)) fun a24 u24 F24 h140_24 => ?_
 obtain ⟨w3, hr3, B17_3, G3⟩ := st_run (T := 37) (o := 8) (v := (.slice k2a k2n k2c)) (cs' := #[(.int .i64 6), (.int .u64 0), (.string s.title), (.string s.uri), (.float .f64 (fb s.e)), (.int .i64 s.li), (.int .i64 s.off), kv, (.slice k2a k2n k2c), (.slice none 0 0), (.bool s.disc), (.string s.date), (.int .i64 num)]) (fun _ => by kernel_rfl) B17_2 rfl (Nat.le_of_ble_eq_true rfl) rfl
 have B16_3 := B16_2.gk G3 (B16_2.ne_ B17_2 (by decide))
 have Bk_3 := Bk_2.gk G3 (Bk_2.ne_ B17_2 (by decide))
 have K_3 := K_2.blk hw B17_2 hg17 (by decide) G3
 have H_3 := H_2.kt (Kt.of_blk B17_2 G3) (by decide)
 have sr_3 := sr_2.gfar B17_2 (by decide) (by decide) hfar G3
 have wr_3 := wr_2.kt (Kt.of_blk B17_2 G3) (by decide)
 have ks_3 := ks_2.kt (Kt.of_blk B17_2 G3) (by decide)
 have kq_3 := kq_2.kt (Kt.of_blk B17_2 G3) (by decide)
 have mq_3 := mq_2.kt (Kt.of_blk B17_2 G3) (by decide)
 have ms_3 := ms_2.kt (Kt.of_blk B17_2 G3) (by decide)
 refine wl_n (ex_st h140_24 (u24.w (u23.w h138_22)) hr3) ?_
 clear K_2 H_2 sr_2 wr_2 kq_2 mq_2
 change Code.wp _ _ _ _ _
 refine rg_list ?_
 have h9_24 := u24.w (u23.w (u22.w (u21.w (u20.w (u19.w (u18.w (u17.w (u16.w (u15.w (u14.w (u13.w (u12.w (u11.w (u10.w (u9.w (u8.w (u7.w (u6.w (u5.w (u4.w (u3.w (u2.w (u1.w h9_0)))))))))))))))))))))))
 refine wl_pq F24 (ex_mv h9_24) fun a25 u25 F25 h141_25 => ?_
 have h20_25 := u25.w (u24.w (u23.w (u22.w (u21.w h20_20))))
 refine wl_pq F25 (ex_mv h20_25) fun a26 u26 F26 h142_26 => ?_
 refine wl_pq F26 (ex_nil h142_26) fun a27 u27 F27 h143_27 => ?_
 refine wl_pq F27 (ex_lda h143_27 (ld_agg (n := 3) (xs := #[(.string q.uri), (.int .i64 q.li), (.int .i64 q.off)]) (fun _ => by kernel_rfl) (fun _ => by kernel_rfl) Bk_3 rfl (fun _ _ => by rw [Nat.zero_add] <;> rfl))) fun a28 u28 F28 (h144_28 : a28.tmps.getD 144 undef = (.agg #[(.string q.uri), (.int .i64 q.li), (.int .i64 q.off)])) => ?_
 have h14_28 := u28.w (u27.w (u26.w (u25.w (u24.w (u23.w (u22.w (u21.w (u20.w (u19.w (u18.w (u17.w (u16.w (u15.w (u14.w (u13.w (u12.w (u11.w (u10.w (u9.w (u8.w (u7.w (u6.w (u5.w (u4.w (u3.w (u2.w (u1.w h14_0)))))))))))))))))))))))))))
 refine wl_pq F28 (ex_mv h14_28) fun a29 u29 F29 h145_29 => ?_
 refine wl_pq F29 (ex_bin (vy := (.int .i64 12)) (v := (.bool false)) h145_29 rfl (by kernel_rfl)) fun a30 u30 F30 h146_30 => ?_
 have h141_30 := u30.w (u29.w (u28.w (u27.w (u26.w h141_25))))
 refine wl_cl (args := #[(pt wb), (.agg #[(.string q.uri), (.int .i64 q.li), (.int .i64 q.off)]), (.bool false)]) (R := fun v w' => v = (.bool (decide (d.segs.length ≠ 0))) ∧ WinS w' N0 wb (d.leadL q) ∧ Kt N0 DS w3 w') (ex_cl (fun _ _ => by kernel_rfl) (arg3 h141_30 (u30.w (u29.w h144_28)) h146_30)) ((lead_one hO H_3 hq).mono fun _ _ h => ⟨_, h.1, rfl, h.2⟩) F30.l ?_
 rintro v w4 ⟨rfl, H_4, KK⟩
 have B17_4 := B17_3.kt KK (by decide)
 have Bk_4 := Bk_3.kt KK (by decide)
 have K_4 := K_3.trans (KK.sub (by decide))
 have sr_4 := sr_3.kt KK (by decide) (by decide) (by decide)
 have wr_4 := wr_3.kt KK (by decide)
 have ks_4 := ks_3.kt KK (by decide)
 have kq_4 := kq_3.kt KK (by decide)
 have mq_4 := mq_3.kt KK (by decide)
 have ms_4 := ms_3.kt KK (by decide)
 intro a31 u31 h147_31
 have F31 := F30.pt u31
 clear K_3 H_3 sr_3 wr_3 kq_3 mq_3 KK
 refine wl_pq F31 (ex_as h147_31) fun a32 u32 F32 h18_32 => ?_
 have h7_32 := u32.w (u31.w (u30.w (u29.w (u28.w (u27.w (u26.w (u25.w (u24.w (u23.w (u22.w (u21.w (u20.w (u19.w (u18.w (u17.w (u16.w (u15.w (u14.w (u13.w (u12.w (u11.w (u10.w (u9.w (u8.w (u7.w (u6.w (u5.w (u4.w (u3.w (u2.w (u1.w h7_0)))))))))))))))))))))))))))))))
 have h8_32 := u32.w (u31.w (u30.w (u29.w (u28.w (u27.w (u26.w (u25.w (u24.w (u23.w (u22.w (u21.w (u20.w (u19.w (u18.w (u17.w (u16.w (u15.w (u14.w (u13.w (u12.w (u11.w (u10.w (u9.w (u8.w (u7.w (u6.w (u5.w (u4.w (u3.w (u2.w (u1.w h8_0)))))))))))))))))))))))))))))))
 have h48_32 := u32.w (u31.w (u30.w (u29.w (u28.w (u27.w (u26.w (u25.w (u24.w (u23.w (u22.w (u21.w (u20.w (u19.w (u18.w (u17.w (u16.w (u15.w (u14.w (u13.w (u12.w (u11.w (u10.w (u9.w (u8.w (u7.w (u6.w (u5.w (u4.w (u3.w (u2.w (u1.w h48_0)))))))))))))))))))))))))))))))
 have h49_32 := u32.w (u31.w (u30.w (u29.w (u28.w (u27.w (u26.w (u25.w (u24.w (u23.w (u22.w (u21.w (u20.w (u19.w (u18.w (u17.w (u16.w (u15.w (u14.w (u13.w (u12.w (u11.w (u10.w (u9.w (u8.w (u7.w (u6.w (u5.w (u4.w (u3.w (u2.w (u1.w h49_0)))))))))))))))))))))))))))))))
 have h50_32 := u32.w (u31.w (u30.w (u29.w (u28.w (u27.w (u26.w (u25.w (u24.w (u23.w (u22.w (u21.w (u20.w (u19.w (u18.w (u17.w (u16.w (u15.w (u14.w (u13.w (u12.w (u11.w (u10.w (u9.w (u8.w (u7.w (u6.w (u5.w (u4.w (u3.w (u2.w (u1.w h50_0)))))))))))))))))))))))))))))))
 have h9_32 := u32.w (u31.w (u30.w (u29.w (u28.w (u27.w (u26.w (u25.w h9_24)))))))
 have h10_32 := u32.w (u31.w (u30.w (u29.w (u28.w (u27.w (u26.w (u25.w (u24.w (u23.w (u22.w (u21.w (u20.w (u19.w (u18.w (u17.w (u16.w (u15.w (u14.w (u13.w (u12.w (u11.w (u10.w (u9.w (u8.w (u7.w (u6.w (u5.w (u4.w (u3.w (u2.w (u1.w h10_0)))))))))))))))))))))))))))))))
 have h11_32 := u32.w (u31.w (u30.w (u29.w (u28.w (u27.w (u26.w (u25.w (u24.w (u23.w (u22.w (u21.w (u20.w (u19.w (u18.w (u17.w (u16.w (u15.w (u14.w (u13.w (u12.w (u11.w (u10.w (u9.w (u8.w (u7.w (u6.w (u5.w (u4.w (u3.w (u2.w (u1.w h11_0)))))))))))))))))))))))))))))))
 have h17_32 := u32.w (u31.w (u30.w (u29.w (u28.w (u27.w (u26.w (u25.w (u24.w (u23.w h17_22)))))))))
 exact hR ⟨6, { s with map := some q }, num⟩ (decide (d.segs.length ≠ 0)) _ _ ⟨F32, h7_32, h8_32, h48_32, h49_32, h50_32, h9_32, h10_32, h11_32, h17_32, h18_32, K_4, H_4, sr_4, wr_4, ⟨_, _, B17_4, ks_4, ms_4⟩, ⟨by simp, ⟨⟨ok.1.title, ok.1.uri, ok.1.date, ok.1.li, ok.1.off, ok.1.key, fun _ e => by cases e; exact hq⟩, ok.2⟩, hnum, (fun h => by simp at h), (fun _ => ⟨q, rfl⟩)⟩, rfl⟩
theorem sw_7 {w00 : World} {N0 wb g16 g17 h k : Nat} {d : WinD} {sv wv : Value} {xs : List StepD} {tl : List Bool} {c7 c8 c48 c49 c50 : Value} {num : Nat} {s : SegD} {kp mp : Option Nat} {kv mv : Value} {a0 : Act} {w0 : World} {R : Exit → Act → World → Prop} (hO : d.Ok k) (hk : k < 900) (hJ : PrJ w00 N0 wb g16 g17 h d sv wv xs tl c7 c8 c48 c49 c50 7 num s kp mp kv mv a0 w0) (hR : ∀ x t a w, SwJ w00 N0 wb g17 d sv wv xs tl c7 c8 c48 c49 c50 x t a w → R .normal a w) : (cat [1, 1, 1, 1, 1, 1, 1, 0, 1, 0, 0, 1, 1, 0, 0, 1, 1, 1, 1, 1, 1, 0, 1] fsB).wp Tryd.prog R a0 w0 := by
 obtain ⟨F0, h7_0, h8_0, h48_0, h49_0, h50_0, h9_0, h10_0, h11_0, h14_0, h15_0, h16_0, h17_0, h18_0, h72_0, K_0, H_0, sr_0, wr_0, B16_0, B17_0, ks_0, ms_0, kq_0, mq_0, ok, hnum, hh, hg16, hg17, hw, hfar⟩ := hJ
 have h14_0 : a0.tmps.getD 14 undef = (.int .i64 7) := h14_0
 have h72_0 : a0.tmps.getD 72 undef = (.int .i64 7) := h72_0
 have B17_0 : Blk w0 g17 44 #[(.int .i64 7), (.int .u64 0), (.string s.title), (.string s.uri), (.float .f64 (fb s.e)), (.int .i64 s.li), (.int .i64 s.off), kv, mv, (.slice none 0 0), (.bool s.disc), (.string s.date), (.int .i64 num)] := B17_0
 change Code.wp _ (Code.block _ _) _ _ _
 refine wp_block ?_
 refine wp_sr ?_
 refine wl_pq F0 (ex_bin (vy := (.int .i64 0)) (v := (.bool false)) h72_0 rfl (by kernel_rfl)) fun a1 u1 F1 h74_1 => ?_
 refine wl_pq F1 (ex_as h74_1) fun a2 u2 F2 h73_2 => ?_
 change Code.wp _ _ _ _ _
 refine wp_cond_false h73_2 ?_
 refine wp_sr ?_
 refine wl_pq F2 (ex_bin (vy := (.int .i64 1)) (v := (.bool false)) (u2.w (u1.w h72_0)) rfl (by kernel_rfl)) fun a3 u3 F3 h79_3 => ?_
 refine wl_pq F3 (ex_as h79_3) fun a4 u4 F4 h78_4 => ?_
 change Code.wp _ _ _ _ _
 refine wp_cond_false h78_4 ?_
 refine wp_sr ?_
 have h72_4 := u4.w (u3.w (u2.w (u1.w h72_0)))
 refine wl_pq F4 (ex_bin (vy := (.int .i64 2)) (v := (.bool false)) h72_4 rfl (by kernel_rfl)) fun a5 u5 F5 h83_5 => ?_
 refine wl_pq F5 (ex_as h83_5) fun a6 u6 F6 h82_6 => ?_
 change Code.wp _ _ _ _ _
 refine wp_cond_false h82_6 ?_
 refine wp_sr ?_
 refine wl_pq F6 (ex_bin (vy := (.int .i64 3)) (v := (.bool false)) (u6.w (u5.w h72_4)) rfl (by kernel_rfl)) fun a7 u7 F7 h94_7 => ?_
 refine wl_pq F7 (ex_as h94_7) fun a8 u8 F8 h93_8 => ?_
 change Code.wp _ _ _ _ _
 refine wp_cond_false h93_8 ?_
 refine wp_sr ?_
 have h72_8 := u8.w (u7.w (u6.w (u5.w h72_4)))
 refine wl_pq F8 (ex_bin (vy := (.int .i64 4)) (v := (.bool false)) h72_8 rfl (by kernel_rfl)) fun a9 u9 F9 h99_9 => ?_
 refine wl_pq F9 (ex_as h99_9) fun a10 u10 F10 h98_10 => ?_
 change Code.wp _ _ _ _ _
 refine wp_cond_false h98_10 ?_
 refine wp_seq ?_
 refine wp_sr ?_
 refine wl_pq F10 (ex_bin (vy := (.int .i64 5)) (v := (.bool false)) (u10.w (u9.w h72_8)) rfl (by kernel_rfl)) fun a11 u11 F11 h114_11 => ?_
 refine wl_pq F11 (ex_as h114_11) fun a12 u12 F12 h113_12 => ?_
 change Code.wp _ _ _ _ _
 refine wp_cond_false h113_12 ?_
 refine rg_list ?_
 have h72_12 := u12.w (u11.w (u10.w (u9.w h72_8)))
 refine wl_pq F12 (ex_bin (vy := (.int .i64 11)) (v := (.bool false)) h72_12 rfl (by kernel_rfl)) fun a13 u13 F13 h115_13 => ?_
 refine wl_pq F13 (ex_as h115_13) fun a14 u14 F14 h113_14 => ?_
 change Code.wp _ _ _ _ _
 refine wp_cond_false h113_14 ?_
 refine wp_seq ?_
 refine wp_sr ?_
 refine wl_pq F14 (ex_bin (vy := (.int .i64 6)) (v := (.bool false)) (u14.w (u13.w h72_12)) rfl (by kernel_rfl)) fun a15 u15 F15 h132_15 => ?_
 refine wl_pq F15 (ex_as h132_15) fun a16 u16 F16 h131_16 => ?_
 change Code.wp _ _ _ _ _
 refine wp_cond_false h131_16 ?_
 refine rg_list ?_
 have h72_16 := u16.w (u15.w (u14.w (u13.w h72_12)))
 refine wl_pq F16 (ex_bin (vy := (.int .i64 12)) (v := (.bool false)) h72_16 rfl (by kernel_rfl)) fun a17 u17 F17 h133_17 => ?_
 refine wl_pq F17 (ex_as h133_17) fun a18 u18 F18 h131_18 => ?_
 change Code.wp _ _ _ _ _
 refine wp_cond_false h131_18 ?_
 refine wp_sr ?_
 refine wl_pq F18 (ex_bin (vy := (.int .i64 7)) (v := (.bool true)) (u18.w (u17.w h72_16)) rfl (by kernel_rfl)) fun a19 u19 F19 h149_19 => ?_
 refine wl_pq F19 (ex_as h149_19) fun a20 u20 F20 h148_20 => ?_
 change Code.wp _ _ _ _ _
 refine wp_cond_true h148_20 ?_
 refine wp_sr ?_
 have h15_20 := u20.w (u19.w (u18.w (u17.w (u16.w (u15.w (u14.w (u13.w (u12.w (u11.w (u10.w (u9.w (u8.w (u7.w (u6.w (u5.w (u4.w (u3.w (u2.w (u1.w h15_0)))))))))))))))))))
 refine wl_pq F20 (ex_mv h15_20) fun a21 u21 F21 h150_21 => ?_
 refine wl_pq F21 (ex_bin (vy := (.int .u64 5)) (v := (.int .u32 (sh h 5 : Nat))) h150_21 rfl (uu_shr h 5 _)) fun a22 u22 F22 h151_22 => ?_
 refine wl_pq F22 (ex_conv (vx := (.int .u32 (sh h 5 : Nat))) (v := (.int .i64 (sh h 5 : Nat))) h151_22 (cv_27_2 (sh h 5 : Nat) (sh_lt hh) _)) fun a23 u23 F23 h152_23 => ?_
 have h15_23 := u23.w (u22.w (u21.w h15_20))
 refine wl_pq F23 (ex_mv h15_23) fun a24 u24 F24 h153_24 => ?_
 refine wl_pq F24 (ex_bin (vy := (.int .u64 9)) (v := (.int .u32 (sh h 9 : Nat))) h153_24 rfl (uu_shr h 9 _)) fun a25 u25 F25 h154_25 => ?_
 refine wl_pq F25 (ex_conv (vx := (.int .u32 (sh h 9 : Nat))) (v := (.int .i64 (sh h 9 : Nat))) h154_25 (cv_27_2 (sh h 9 : Nat) (sh_lt hh) _)) fun a26 u26 F26 h155_26 => ?_
 have h17_26 := u26.w (u25.w (u24.w (u23.w (u22.w (u21.w (u20.w (u19.w (u18.w (u17.w (u16.w (u15.w (u14.w (u13.w (u12.w (u11.w (u10.w (u9.w (u8.w (u7.w (u6.w (u5.w (u4.w (u3.w (u2.w (u1.w h17_0)))))))))))))))))))))))))
 refine wl_pq F26 (ex_fb 1 h17_26) fun a27 u27 F27 h156_27 => ?_
 refine wl_pq F27 (ex_fag (vx := (.pointer (some ⟨g17, 1, none⟩))) (v := (.pointer (some ⟨g17, 5, none⟩))) h156_27 (by kernel_rfl)) fun a28 u28 F28 h157_28 => ?_
 obtain ⟨w1, hr1, B17_1, G1⟩ := st_run (T := 2) (o := 5) (v := (.int .i64 (sh h 5 : Nat))) (cs' := #[(.int .i64 7), (.int .u64 0), (.string s.title), (.string s.uri), (.float .f64 (fb s.e)), (.int .i64 (sh h 5 : Nat)), (.int .i64 s.off), kv, mv, (.slice none 0 0), (.bool s.disc), (.string s.date), (.int .i64 num)]) (fun _ => by kernel_rfl) B17_0 rfl (Nat.le_of_ble_eq_true rfl) rfl
 have B16_1 := B16_0.gk G1 (B16_0.ne_ B17_0 (by decide))
 have K_1 := K_0.blk hw B17_0 hg17 (by decide) G1
 have H_1 := H_0.kt (Kt.of_blk B17_0 G1) (by decide)
 have sr_1 := sr_0.gfar B17_0 (by decide) (by decide) hfar G1
 have wr_1 := wr_0.kt (Kt.of_blk B17_0 G1) (by decide)
 have ks_1 := ks_0.kt (Kt.of_blk B17_0 G1) (by decide)
 have ms_1 := ms_0.kt (Kt.of_blk B17_0 G1) (by decide)
 have kq_1 := kq_0.kt (Kt.of_blk B17_0 G1) (by decide)
 have mq_1 := mq_0.kt (Kt.of_blk B17_0 G1) (by decide)
 have h152_28 := u28.w (u27.w (u26.w (u25.w (u24.w h152_23))))
 refine wl_n (ex_st h157_28 h152_28 hr1) ?_
 clear K_0 H_0 sr_0 wr_0 kq_0 mq_0
 refine wl_pq F28 (ex_fb 1 (u28.w (u27.w h17_26))) fun a29 u29 F29 h158_29 => ?_
 refine wl_pq F29 (ex_fag (vx := (.pointer (some ⟨g17, 1, none⟩))) (v := (.pointer (some ⟨g17, 6, none⟩))) h158_29 (by kernel_rfl)) fun a30 u30 F30 h159_30 => ?_
 obtain ⟨w2, hr2, B17_2, G2⟩ := st_run (T := 2) (o := 6) (v := (.int .i64 (sh h 9 : Nat))) (cs' := #[(.int .i64 7), (.int .u64 0), (.string s.title), (.string s.uri), (.float .f64 (fb s.e)), (.int .i64 (sh h 5 : Nat)), (.int .i64 (sh h 9 : Nat)), kv, mv, (.slice none 0 0), (.bool s.disc), (.string s.date), (.int .i64 num)]) (fun _ => by kernel_rfl) B17_1 rfl (Nat.le_of_ble_eq_true rfl) rfl
 have B16_2 := B16_1.gk G2 (B16_1.ne_ B17_1 (by decide))
 have K_2 := K_1.blk hw B17_1 hg17 (by decide) G2
 have H_2 := H_1.kt (Kt.of_blk B17_1 G2) (by decide)
 have sr_2 := sr_1.gfar B17_1 (by decide) (by decide) hfar G2
 have wr_2 := wr_1.kt (Kt.of_blk B17_1 G2) (by decide)
 have ks_2 := ks_1.kt (Kt.of_blk B17_1 G2) (by decide)
 have ms_2 := ms_1.kt (Kt.of_blk B17_1 G2) (by decide)
 have kq_2 := kq_1.kt (Kt.of_blk B17_1 G2) (by decide)
 have mq_2 := mq_1.kt (Kt.of_blk B17_1 G2) (by decide)
 have h155_30 := u30.w (u29.w (u28.w (u27.w h155_26)))
 refine wl_n (ex_st h159_30 h155_30 hr2) ?_
 clear K_1 H_1 sr_1 wr_1 kq_1 mq_1
 change Code.wp _ _ _ _ _
 refine rg_list ?_
 have h9_30 := u30.w (u29.w (u28.w (u27.w (u26.w (u25.w (u24.w (u23.w (u22.w (u21.w (u20.w (u19.w (u18.w (u17.w (u16.w (u15.w (u14.w (u13.w (u12.w (u11.w (u10.w (u9.w (u8.w (u7.w (u6.w (u5.w (u4.w (u3.w (u2.w (u1.w h9_0)))))))))))))))))))))))))))))
 refine wl_pq F30 (ex_mv h9_30) fun a31 u31 F31 h160_31 => ?_
 have h15_31 := u31.w (u30.w (u29.w (u28.w (u27.w (u26.w (u25.w (u24.w h15_23)))))))
 refine wl_pq F31 (ex_mv h15_31) fun a32 u32 F32 h161_32 => ?_
 refine wl_pq F32 (ex_bin (vy := (.int .u64 5)) (v := (.int .u32 (sh h 5 : Nat))) h161_32 rfl (uu_shr h 5 _)) fun a33 u33 F33 h162_33 => ?_
 refine wl_pq F33 (ex_conv (vx := (.int .u32 (sh h 5 : Nat))) (v := (.int .i64 (sh h 5 : Nat))) h162_33 (cv_27_2 (sh h 5 : Nat) (sh_lt hh) _)) fun a34 u34 F34 h163_34 => ?_
 have h15_34 := u34.w (u33.w (u32.w h15_31))
 refine wl_pq F34 (ex_mv h15_34) fun a35 u35 F35 h164_35 => ?_
 refine wl_pq F35 (ex_bin (vy := (.int .u64 9)) (v := (.int .u32 (sh h 9 : Nat))) h164_35 rfl (uu_shr h 9 _)) fun a36 u36 F36 h165_36 => ?_
 refine wl_pq F36 (ex_conv (vx := (.int .u32 (sh h 9 : Nat))) (v := (.int .i64 (sh h 9 : Nat))) h165_36 (cv_27_2 (sh h 9 : Nat) (sh_lt hh) _)) fun a37 u37 F37 h166_37 => ?_
 have h160_37 := u37.w (u36.w (u35.w (u34.w (u33.w (u32.w h160_31)))))
 have h163_37 := u37.w (u36.w (u35.w h163_34))
 refine wl_cl (args := #[(pt wb), (.int .i64 (sh h 5 : Nat)), (.int .i64 (sh h 9 : Nat))]) (R := fun v w' => v = (.bool (decide (d.segs.length ≠ 0))) ∧ WinS w' N0 wb (d.rangeL (sh h 5) (sh h 9)) ∧ Kt N0 DS w2 w') (ex_cl (fun _ _ => by kernel_rfl) (arg3 h160_37 h163_37 h166_37)) ((range_any hO H_2).mono fun _ _ h => ⟨_, h.1, rfl, h.2⟩) F37.l ?_
 rintro v w3 ⟨rfl, H_3, KK⟩
 have B17_3 := B17_2.kt KK (by decide)
 have K_3 := K_2.trans (KK.sub (by decide))
 have sr_3 := sr_2.kt KK (by decide) (by decide) (by decide)
 have wr_3 := wr_2.kt KK (by decide)
 have ks_3 := ks_2.kt KK (by decide)
 have ms_3 := ms_2.kt KK (by decide)
 have kq_3 := kq_2.kt KK (by decide)
 have mq_3 := mq_2.kt KK (by decide)
 intro a38 u38 h167_38
 have F38 := F37.pt u38
 clear K_2 H_2 sr_2 wr_2 kq_2 mq_2 KK
 refine wl_pq F38 (ex_as h167_38) fun a39 u39 F39 h18_39 => ?_
 have h7_39 := u39.w (u38.w (u37.w (u36.w (u35.w (u34.w (u33.w (u32.w (u31.w (u30.w (u29.w (u28.w (u27.w (u26.w (u25.w (u24.w (u23.w (u22.w (u21.w (u20.w (u19.w (u18.w (u17.w (u16.w (u15.w (u14.w (u13.w (u12.w (u11.w (u10.w (u9.w (u8.w (u7.w (u6.w (u5.w (u4.w (u3.w (u2.w (u1.w h7_0))))))))))))))))))))))))))))))))))))))
 have h8_39 := u39.w (u38.w (u37.w (u36.w (u35.w (u34.w (u33.w (u32.w (u31.w (u30.w (u29.w (u28.w (u27.w (u26.w (u25.w (u24.w (u23.w (u22.w (u21.w (u20.w (u19.w (u18.w (u17.w (u16.w (u15.w (u14.w (u13.w (u12.w (u11.w (u10.w (u9.w (u8.w (u7.w (u6.w (u5.w (u4.w (u3.w (u2.w (u1.w h8_0))))))))))))))))))))))))))))))))))))))
 have h48_39 := u39.w (u38.w (u37.w (u36.w (u35.w (u34.w (u33.w (u32.w (u31.w (u30.w (u29.w (u28.w (u27.w (u26.w (u25.w (u24.w (u23.w (u22.w (u21.w (u20.w (u19.w (u18.w (u17.w (u16.w (u15.w (u14.w (u13.w (u12.w (u11.w (u10.w (u9.w (u8.w (u7.w (u6.w (u5.w (u4.w (u3.w (u2.w (u1.w h48_0))))))))))))))))))))))))))))))))))))))
 have h49_39 := u39.w (u38.w (u37.w (u36.w (u35.w (u34.w (u33.w (u32.w (u31.w (u30.w (u29.w (u28.w (u27.w (u26.w (u25.w (u24.w (u23.w (u22.w (u21.w (u20.w (u19.w (u18.w (u17.w (u16.w (u15.w (u14.w (u13.w (u12.w (u11.w (u10.w (u9.w (u8.w (u7.w (u6.w (u5.w (u4.w (u3.w (u2.w (u1.w h49_0))))))))))))))))))))))))))))))))))))))
 have h50_39 := u39.w (u38.w (u37.w (u36.w (u35.w (u34.w (u33.w (u32.w (u31.w (u30.w (u29.w (u28.w (u27.w (u26.w (u25.w (u24.w (u23.w (u22.w (u21.w (u20.w (u19.w (u18.w (u17.w (u16.w (u15.w (u14.w (u13.w (u12.w (u11.w (u10.w (u9.w (u8.w (u7.w (u6.w (u5.w (u4.w (u3.w (u2.w (u1.w h50_0))))))))))))))))))))))))))))))))))))))
 have h9_39 := u39.w (u38.w (u37.w (u36.w (u35.w (u34.w (u33.w (u32.w (u31.w h9_30))))))))
 have h10_39 := u39.w (u38.w (u37.w (u36.w (u35.w (u34.w (u33.w (u32.w (u31.w (u30.w (u29.w (u28.w (u27.w (u26.w (u25.w (u24.w (u23.w (u22.w (u21.w (u20.w (u19.w (u18.w (u17.w (u16.w (u15.w (u14.w (u13.w (u12.w (u11.w (u10.w (u9.w (u8.w (u7.w (u6.w (u5.w (u4.w (u3.w (u2.w (u1.w h10_0))))))))))))))))))))))))))))))))))))))
 have h11_39 := u39.w (u38.w (u37.w (u36.w (u35.w (u34.w (u33.w (u32.w (u31.w (u30.w (u29.w (u28.w (u27.w (u26.w (u25.w (u24.w (u23.w (u22.w (u21.w (u20.w (u19.w (u18.w (u17.w (u16.w (u15.w (u14.w (u13.w (u12.w (u11.w (u10.w (u9.w (u8.w (u7.w (u6.w (u5.w (u4.w (u3.w (u2.w (u1.w h11_0))))))))))))))))))))))))))))))))))))))
 have h17_39 := u39.w (u38.w (u37.w (u36.w (u35.w (u34.w (u33.w (u32.w (u31.w (u30.w (u29.w (u28.w (u27.w h17_26))))))))))))
 exact hR ⟨7, { s with li := sh h 5, off := sh h 9 }, num⟩ (decide (d.segs.length ≠ 0)) _ _ ⟨F39, h7_39, h8_39, h48_39, h49_39, h50_39, h9_39, h10_39, h11_39, h17_39, h18_39, K_3, H_3, sr_3, wr_3, ⟨_, _, B17_3, ks_3, ms_3⟩, ⟨by simp, (ok.part (sh_lt (Nat.lt_trans hh (by decide))) (sh_lt (Nat.lt_trans hh (by decide)))), hnum, (fun h => by simp at h), (fun h => by simp at h)⟩, rfl⟩
end Go.Proofs.YtdpebhlkgmopkaaDoor
