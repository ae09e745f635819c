/-
 FnSteps: one step of the program.
-/
import Derived.Test.YtdpebhlkgmopkaaDoorPlb
namespace Go.Proofs.YtdpebhlkgmopkaaDoor
open Go.RowKit
set_option maxRecDepth 100000
theorem arg6 {a : Act} {x1 x2 x3 x4 x5 x6 : Operand} {v1 v2 v3 v4 v5 v6 : Value} (h1 : a.eval x1 = v1) (h2 : a.eval x2 = v2) (h3 : a.eval x3 = v3) (h4 : a.eval x4 = v4) (h5 : a.eval x5 = v5) (h6 : a.eval x6 = v6) : (#[x1, x2, x3, x4, x5, x6] : Array Operand).map a.eval = #[v1, v2, v3, v4, v5, v6] := by simp only [List.map_toArray, List.map_cons, List.map_nil, h1, h2, h3, h4, h5, h6]
section
variable {x : Nat}
theorem er_eq {v : Value} {t : Bool} (h : Er v t) (w : World) : (do eqGuard .eql 83 (.tmp x) (.const .nilIface) v .nilIface; binOp .eql 83 v .nilIface : Sem Value).run Tryd.prog w = .ok (.bool t) w := by
 rcases h with ⟨rfl, rfl⟩ | ⟨rfl, a, b, rfl⟩
 · kernel_rfl
 · simp [go_sem]
end
theorem cv_iu (n : Nat) (hn : n < 256) (w : World) : (convert 3 42 (.int .i64 n)).run Tryd.prog w = .ok (.int .u64 n) w := by
 simp [go_sem]
 rw [IntKind.wrap_u64]; omega
theorem cv_iu8 (n : Nat) (hn : n < 256) (w : World) : (convert 3 5 (.int .i64 n)).run Tryd.prog w = .ok (.int .u8 n) w := by
 simp [go_sem]
 rw [IntKind.wrap_u8]; omega
theorem PlQ.hw_ {w : World} {B b q : Nat} {d : WinD} (H : PlQ w B b d q) : B ≤ w.heap.size := H.toS.hw_
theorem step_0 {d : WinD} {k B b num : Nat} {s : SegD} {kv mv : Value} {w0 : World} (hO : d.Ok k) (hk9 : k < 900) (H_0 : PlS w0 B b d) (he : s.e < 160) (hnum : num ≤ 255) (ks_0 : KeySl w0 kv s.key) (ms_0 : MapSl w0 mv s.map) : Calls Tryd.prog 28 #[pt b, .agg #[(.int .i64 0), (.int .u64 0), (.string s.title), (.string s.uri), (.float .f64 (fb s.e)), (.int .i64 s.li), (.int .i64 s.off), kv, mv, (.slice none 0 0), (.bool s.disc), (.string s.date), (.int .i64 num)]] w0 fun e w' => e = .returned (.tuple #[.bool (decide (d.segs.length ≠ d.places)), .bool true]) ∧ PlS w' B b (d.put s) ∧ Kt B DP w0 w' := by
 have hw0 := H_0.hw_
 have hk : k ≤ 900 := Nat.le_of_lt hk9
 refine calls_of_wp Tryd.func28 rfl ?_
 generalize hA : Act.mk _ _ = a0
 have F0 : Fz 252 a0 := by subst hA; exact ⟨by simp [Tryd.ntmps28], rfl⟩
 have h0_0 : a0.tmps.getD 0 undef = (.pointer (some ⟨b, 0, none⟩)) := by subst hA; exact fr_arg rfl
 have h1_0 : a0.tmps.getD 1 undef = (.agg #[(.int .i64 0), (.int .u64 0), (.string s.title), (.string s.uri), (.float .f64 (fb s.e)), (.int .i64 s.li), (.int .i64 s.off), kv, mv, (.slice none 0 0), (.bool s.disc), (.string s.date), (.int .i64 num)]) := by subst hA; exact fr_arg rfl
 have Q_0 := grown_refl w0 none
 refine wp_sr ?_
 obtain ⟨g3, hg3⟩ : ∃ g, w0.heap.size = g := ⟨_, rfl⟩
 obtain ⟨w1, hr1, B3_1, G1, hs1⟩ := al_run (op := Instr.box 44 (.agg #[(.int .i64 0), (.int .u64 0), (.string s.title), (.string s.uri), (.float .f64 (fb s.e)), (.int .i64 s.li), (.int .i64 s.off), kv, mv, (.slice none 0 0), (.bool s.disc), (.string s.date), (.int .i64 num)])) (T := 44) (cs := #[(.int .i64 0), (.int .u64 0), (.string s.title), (.string s.uri), (.float .f64 (fb s.e)), (.int .i64 s.li), (.int .i64 s.off), kv, mv, (.slice none 0 0), (.bool s.disc), (.string s.date), (.int .i64 num)]) hg3 (fun _ => by kernel_rfl)
 have Q_1 := grown_trans Q_0 G1
 have ks_1 := ks_0.gn G1
 have ms_1 := ms_0.gn G1
 have H_1 := H_0.gn G1
 refine wl_pq F0 (ex_bx h1_0 hr1) fun a1 u1 F1 (h3_1 : a1.tmps.getD 3 undef = (.pointer (some ⟨g3, 0, none⟩))) => ?_
 clear Q_0 H_0
 refine wl_pq F1 (ex_as (v := (.bool false)) rfl) fun a2 u2 F2 h4_2 => ?_
 refine wl_pq F2 (ex_as (v := (.bool false)) rfl) fun a3 u3 F3 h5_3 => ?_
 change Code.wp _ _ _ _ _
 refine wp_sr ?_
 refine wl_pq F3 (ex_fb 1 (u3.w (u2.w h3_1))) fun a4 u4 F4 h8_4 => ?_
 refine wl_pq F4 (ex_lda h8_4 (ld_agg (n := 11) (o := 1) (xs := #[(.int .u64 0), (.string s.title), (.string s.uri), (.float .f64 (fb s.e)), (.int .i64 s.li), (.int .i64 s.off), kv, mv, (.slice none 0 0), (.bool s.disc), (.string s.date)]) (fun _ => by kernel_rfl) (fun _ => by kernel_rfl) B3_1 rfl (fun k hk => by rcases k with _ | _ | _ | _ | _ | _ | _ | _ | _ | _ | _ | k <;> first | rfl | omega))) fun a5 u5 F5 (h9_5 : a5.tmps.getD 9 undef = (.agg #[(.int .u64 0), (.string s.title), (.string s.uri), (.float .f64 (fb s.e)), (.int .i64 s.li), (.int .i64 s.off), kv, mv, (.slice none 0 0), (.bool s.disc), (.string s.date)])) => ?_
 refine wl_cl (args := #[(.agg #[(.int .u64 0), (.string s.title), (.string s.uri), (.float .f64 (fb s.e)), (.int .i64 s.li), (.int .i64 s.off), kv, mv, (.slice none 0 0), (.bool s.disc), (.string s.date)])]) (R := fun v w' => ∃ q kp mp, v = pt q ∧ Blk w' q 95 (segC 0 s kp mp) ∧ KeyP w' w1.heap.size kp s.key ∧ MapP w' w1.heap.size mp s.map ∧ w1.heap.size ≤ q ∧ w1.grownBy w' none) (ex_cl (fun _ _ => by kernel_rfl) (arg1 h9_5)) ((segmentTo_any ks_1 ms_1).mono fun _ _ ⟨q, kp, mp, h, r⟩ => ⟨_, h, q, kp, mp, rfl, r⟩) F5.l ?_
 rintro v w2 ⟨q, kq, mq, rfl, Bq_2, kq0, mq0, hq, G2⟩
 have B3_2 := B3_1.gn G2
 have Q_2 := grown_trans Q_1 G2
 have ks_2 := ks_1.gn G2
 have ms_2 := ms_1.gn G2
 have H_2 := H_1.toQ G2 hq
 have hBq : B ≤ q := Nat.le_trans H_1.hw_ hq
 have kq_2 := kq0.lo' H_1.hw_
 have mq_2 := mq0.lo' H_1.hw_
 intro a6 u6 h10_6
 have F6 := F5.pt u6
 clear Q_1 H_1
 refine wl_pq F6 (ex_as h10_6) fun a7 u7 F7 h6_7 => ?_
 change Code.wp _ _ _ _ _
 refine wp_seq ?_
 refine wp_sr ?_
 refine wl_pq F7 (ex_mv h6_7) fun a8 u8 F8 h11_8 => ?_
 refine wl_pq F8 (ex_nil h11_8) fun a9 u9 F9 h12_9 => ?_
 refine wl_pq F9 (ex_fb 3 h12_9) fun a10 u10 F10 h13_10 => ?_
 refine wl_pq F10 (ex_le (v := (.float .f64 (fb s.e))) h13_10 (Bq_2.cell 3)) fun a11 u11 F11 h14_11 => ?_
 refine wl_cl (args := #[(.float .f64 (fb s.e))]) (R := fun v w' => v = (.bool true) ∧ w2 = w') (ex_cl (fun _ _ => by kernel_rfl) (arg1 h14_11)) ((plain_any s.e (by omega) _).mono fun _ _ h => ⟨_, h.1, rfl, h.2⟩) F11.l ?_
 rintro v w' ⟨rfl, rfl⟩
 intro a12 u12 h15_12
 have F12 := F11.pt u12
 refine wl_pq F12 (ex_un (vx := (.bool true)) (v := (.bool false)) h15_12 rfl) fun a13 u13 F13 h16_13 => ?_
 refine wl_pq F13 (ex_mv h16_13) fun a14 u14 F14 h17_14 => ?_
 have h3_14 := u14.w (u13.w (u12.w (u11.w (u10.w (u9.w (u8.w (u7.w (u6.w (u5.w (u4.w (u3.w (u2.w h3_1))))))))))))
 refine wl_gq F14 (yl (e := 17) rfl h17_14) (ex_fb 12 h3_14) fun a15 u15 F15 h18_15 => ?_
 refine wl_gq F15 (yl (e := 17) rfl (u15.w h17_14)) (ex_le (v := (.int .i64 num)) h18_15 (B3_2.cell 12)) fun a16 u16 F16 h19_16 => ?_
 refine wl_gq F16 (yl (e := 17) rfl (u16.w (u15.w h17_14))) (ex_bin (vy := (.int .i64 0)) (v := (.bool false)) h19_16 rfl ((bo_ltn num 0 _).trans (by rw [decide_eq_false (by omega)]))) fun a17 u17 F17 h20_17 => ?_
 have h17_17 := u17.w (u16.w (u15.w h17_14))
 refine wl_pq F17 (ex_pick (q := false) h17_17 h20_17) fun a18 u18 F18 h21_18 => ?_
 refine wl_pq F18 (ex_mv h21_18) fun a19 u19 F19 h22_19 => ?_
 have h3_19 := u19.w (u18.w (u17.w (u16.w (u15.w h3_14))))
 refine wl_gq F19 (yl (e := 22) rfl h22_19) (ex_fb 12 h3_19) fun a20 u20 F20 h23_20 => ?_
 refine wl_gq F20 (yl (e := 22) rfl (u20.w h22_19)) (ex_le (v := (.int .i64 num)) h23_20 (B3_2.cell 12)) fun a21 u21 F21 h24_21 => ?_
 refine wl_gq F21 (yl (e := 22) rfl (u21.w (u20.w h22_19))) (ex_bin (vy := (.int .i64 255)) (v := (.bool false)) h24_21 rfl ((bo_gtn num 255 _).trans (by rw [decide_eq_false (by omega)]))) fun a22 u22 F22 h25_22 => ?_
 have h22_22 := u22.w (u21.w (u20.w h22_19))
 refine wl_pq F22 (ex_pick (q := false) h22_22 h25_22) fun a23 u23 F23 h26_23 => ?_
 change Code.wp _ _ _ _ _
 refine wp_cond_false h26_23 ?_
 refine wp_skip ?_
 change Code.wp _ _ _ _ _
 refine wp_sr ?_
 refine wl_pq F23 (ex_as (v := .nilIface) rfl) fun a24 u24 F24 h7_24 => ?_
 change Code.wp _ _ _ _ _
 refine wp_seq ?_
 refine wp_sr ?_
 have h3_24 := u24.w (u23.w (u22.w (u21.w (u20.w h3_19))))
 refine wl_pq F24 (ex_fb 0 h3_24) fun a25 u25 F25 h27_25 => ?_
 refine wl_pq F25 (ex_le (v := (.int .i64 0)) h27_25 (B3_2.cell 0)) fun a26 u26 F26 h28_26 => ?_
 change Code.wp _ _ _ _ _
 refine wp_block ?_
 refine wp_sr ?_
 refine wl_pq F26 (ex_bin (vy := (.int .i64 0)) (v := (.bool true)) h28_26 rfl (by kernel_rfl)) fun a27 u27 F27 h30_27 => ?_
 refine wl_pq F27 (ex_as h30_27) fun a28 u28 F28 h29_28 => ?_
 change Code.wp _ _ _ _ _
 refine wp_cond_true h29_28 ?_
 refine rg_list ?_
 have h0_28 := u28.w (u27.w (u26.w (u25.w (u24.w (u23.w (u22.w (u21.w (u20.w (u19.w (u18.w (u17.w (u16.w (u15.w (u14.w (u13.w (u12.w (u11.w (u10.w (u9.w (u8.w (u7.w (u6.w (u5.w (u4.w (u3.w (u2.w (u1.w h0_0)))))))))))))))))))))))))))
 refine wl_pq F28 (ex_mv h0_28) fun a29 u29 F29 h31_29 => ?_
 have h6_29 := u29.w (u28.w (u27.w (u26.w (u25.w (u24.w (u23.w (u22.w (u21.w (u20.w (u19.w (u18.w (u17.w (u16.w (u15.w (u14.w (u13.w (u12.w (u11.w (u10.w (u9.w (u8.w h6_7)))))))))))))))))))))
 refine wl_pq F29 (ex_mv h6_29) fun a30 u30 F30 h32_30 => ?_
 refine wl_cl (args := #[(.pointer (some ⟨b, 0, none⟩)), (.pointer (some ⟨q, 0, none⟩))]) (R := fun v w' => Er v (decide (d.segs.length ≠ d.places)) ∧ PlS w' B b (d.put s) ∧ Kt B DP w2 w') (ex_cl (fun _ _ => by kernel_rfl) (arg2 (u30.w h31_29) h32_30)) ((app_any hO hk H_2 he hBq Bq_2 kq_2 mq_2).mono fun _ _ h => h) F30.l ?_
 rintro vr w3 ⟨hE, hS, K3⟩
 have KK := ((Kt.refl B DP w0).nw hw0 Q_2).trans K3
 intro a31 u31 h33_31
 have F31 := F30.pt u31
 refine wl_pq F31 (ex_as h33_31) fun a32 u32 F32 h7_32 => ?_
 change Code.wp _ _ _ _ _
 refine wp_sr ?_
 refine wl_pq F32 (ex_mv h7_32) fun a33 u33 F33 h250_33 => ?_
 refine wl_pq F33 (ex_bin (vy := .nilIface) (v := (.bool (decide (d.segs.length ≠ d.places)))) h250_33 rfl (er_eq hE _)) fun a34 u34 F34 h251_34 => ?_
 refine wl_pq F34 (ex_as h251_34) fun a35 u35 F35 h4_35 => ?_
 refine wl_pq F35 (ex_as (v := (.bool true)) rfl) fun a36 u36 F36 h5_36 => ?_
 change Code.wp _ _ _ _ _
 refine wp_ret ?_
 try simp only [Exit.then, Exit.inBlock]
 exact bodyPost_ret (v := .tuple #[(.bool (decide (d.segs.length ≠ d.places))), (.bool true)]) ((results_tmp2 rfl _ _ _).trans (by rw [(u36.w h4_35), h5_36])) F36.defers ⟨rfl, hS, KK⟩
theorem step_1 {d : WinD} {k B b num : Nat} {s : SegD} {kv mv : Value} {w0 : World} (hO : d.Ok k) (hk9 : k < 900) (H_0 : PlS w0 B b d) (he : s.e < 160) (hnum : num ≤ 255) (ks_0 : KeySl w0 kv s.key) (ms_0 : MapSl w0 mv s.map) : Calls Tryd.prog 28 #[pt b, .agg #[(.int .i64 1), (.int .u64 0), (.string s.title), (.string s.uri), (.float .f64 (fb s.e)), (.int .i64 s.li), (.int .i64 s.off), kv, mv, (.slice none 0 0), (.bool s.disc), (.string s.date), (.int .i64 num)]] w0 fun e w' => e = .returned (.tuple #[.bool (decide (d.segs.length ≠ 0)), .bool true]) ∧ PlS w' B b (d.take) ∧ Kt B DP w0 w' := by
 have hw0 := H_0.hw_
 have hk : k ≤ 900 := Nat.le_of_lt hk9
 refine calls_of_wp Tryd.func28 rfl ?_
 generalize hA : Act.mk _ _ = a0
 have F0 : Fz 252 a0 := by subst hA; exact ⟨by simp [Tryd.ntmps28], rfl⟩
 have h0_0 : a0.tmps.getD 0 undef = (.pointer (some ⟨b, 0, none⟩)) := by subst hA; exact fr_arg rfl
 have h1_0 : a0.tmps.getD 1 undef = (.agg #[(.int .i64 1), (.int .u64 0), (.string s.title), (.string s.uri), (.float .f64 (fb s.e)), (.int .i64 s.li), (.int .i64 s.off), kv, mv, (.slice none 0 0), (.bool s.disc), (.string s.date), (.int .i64 num)]) := by subst hA; exact fr_arg rfl
 have Q_0 := grown_refl w0 none
 refine wp_sr ?_
 obtain ⟨g3, hg3⟩ : ∃ g, w0.heap.size = g := ⟨_, rfl⟩
 obtain ⟨w1, hr1, B3_1, G1, hs1⟩ := al_run (op := Instr.box 44 (.agg #[(.int .i64 1), (.int .u64 0), (.string s.title), (.string s.uri), (.float .f64 (fb s.e)), (.int .i64 s.li), (.int .i64 s.off), kv, mv, (.slice none 0 0), (.bool s.disc), (.string s.date), (.int .i64 num)])) (T := 44) (cs := #[(.int .i64 1), (.int .u64 0), (.string s.title), (.string s.uri), (.float .f64 (fb s.e)), (.int .i64 s.li), (.int .i64 s.off), kv, mv, (.slice none 0 0), (.bool s.disc), (.string s.date), (.int .i64 num)]) hg3 (fun _ => by kernel_rfl)
 have Q_1 := grown_trans Q_0 G1
 have ks_1 := ks_0.gn G1
 have ms_1 := ms_0.gn G1
 have H_1 := H_0.gn G1
 refine wl_pq F0 (ex_bx h1_0 hr1) fun a1 u1 F1 (h3_1 : a1.tmps.getD 3 undef = (.pointer (some ⟨g3, 0, none⟩))) => ?_
 clear Q_0 H_0
 refine wl_pq F1 (ex_as (v := (.bool false)) rfl) fun a2 u2 F2 h4_2 => ?_
 refine wl_pq F2 (ex_as (v := (.bool false)) rfl) fun a3 u3 F3 h5_3 => ?_
 change Code.wp _ _ _ _ _
 refine wp_sr ?_
 refine wl_pq F3 (ex_fb 1 (u3.w (u2.w h3_1))) fun a4 u4 F4 h8_4 => ?_
 refine wl_pq F4 (ex_lda h8_4 (ld_agg (n := 11) (o := 1) (xs := #[(.int .u64 0), (.string s.title), (.string s.uri), (.float .f64 (fb s.e)), (.int .i64 s.li), (.int .i64 s.off), kv, mv, (.slice none 0 0), (.bool s.disc), (.string s.date)]) (fun _ => by kernel_rfl) (fun _ => by kernel_rfl) B3_1 rfl (fun k hk => by rcases k with _ | _ | _ | _ | _ | _ | _ | _ | _ | _ | _ | k <;> first | rfl | omega))) fun a5 u5 F5 (h9_5 : a5.tmps.getD 9 undef = (.agg #[(.int .u64 0), (.string s.title), (.string s.uri), (.float .f64 (fb s.e)), (.int .i64 s.li), (.int .i64 s.off), kv, mv, (.slice none 0 0), (.bool s.disc), (.string s.date)])) => ?_
 refine wl_cl (args := #[(.agg #[(.int .u64 0), (.string s.title), (.string s.uri), (.float .f64 (fb s.e)), (.int .i64 s.li), (.int .i64 s.off), kv, mv, (.slice none 0 0), (.bool s.disc), (.string s.date)])]) (R := fun v w' => ∃ q kp mp, v = pt q ∧ Blk w' q 95 (segC 0 s kp mp) ∧ KeyP w' w1.heap.size kp s.key ∧ MapP w' w1.heap.size mp s.map ∧ w1.heap.size ≤ q ∧ w1.grownBy w' none) (ex_cl (fun _ _ => by kernel_rfl) (arg1 h9_5)) ((segmentTo_any ks_1 ms_1).mono fun _ _ ⟨q, kp, mp, h, r⟩ => ⟨_, h, q, kp, mp, rfl, r⟩) F5.l ?_
 rintro v w2 ⟨q, kq, mq, rfl, Bq_2, kq0, mq0, hq, G2⟩
 have B3_2 := B3_1.gn G2
 have Q_2 := grown_trans Q_1 G2
 have ks_2 := ks_1.gn G2
 have ms_2 := ms_1.gn G2
 have H_2 := H_1.toQ G2 hq
 have hBq : B ≤ q := Nat.le_trans H_1.hw_ hq
 have kq_2 := kq0.lo' H_1.hw_
 have mq_2 := mq0.lo' H_1.hw_
 intro a6 u6 h10_6
 have F6 := F5.pt u6
 clear Q_1 H_1
 refine wl_pq F6 (ex_as h10_6) fun a7 u7 F7 h6_7 => ?_
 change Code.wp _ _ _ _ _
 refine wp_seq ?_
 refine wp_sr ?_
 refine wl_pq F7 (ex_mv h6_7) fun a8 u8 F8 h11_8 => ?_
 refine wl_pq F8 (ex_nil h11_8) fun a9 u9 F9 h12_9 => ?_
 refine wl_pq F9 (ex_fb 3 h12_9) fun a10 u10 F10 h13_10 => ?_
 refine wl_pq F10 (ex_le (v := (.float .f64 (fb s.e))) h13_10 (Bq_2.cell 3)) fun a11 u11 F11 h14_11 => ?_
 refine wl_cl (args := #[(.float .f64 (fb s.e))]) (R := fun v w' => v = (.bool true) ∧ w2 = w') (ex_cl (fun _ _ => by kernel_rfl) (arg1 h14_11)) ((plain_any s.e (by omega) _).mono fun _ _ h => ⟨_, h.1, rfl, h.2⟩) F11.l ?_
 rintro v w' ⟨rfl, rfl⟩
 intro a12 u12 h15_12
 have F12 := F11.pt u12
 refine wl_pq F12 (ex_un (vx := (.bool true)) (v := (.bool false)) h15_12 rfl) fun a13 u13 F13 h16_13 => ?_
 refine wl_pq F13 (ex_mv h16_13) fun a14 u14 F14 h17_14 => ?_
 have h3_14 := u14.w (u13.w (u12.w (u11.w (u10.w (u9.w (u8.w (u7.w (u6.w (u5.w (u4.w (u3.w (u2.w h3_1))))))))))))
 refine wl_gq F14 (yl (e := 17) rfl h17_14) (ex_fb 12 h3_14) fun a15 u15 F15 h18_15 => ?_
 refine wl_gq F15 (yl (e := 17) rfl (u15.w h17_14)) (ex_le (v := (.int .i64 num)) h18_15 (B3_2.cell 12)) fun a16 u16 F16 h19_16 => ?_
 refine wl_gq F16 (yl (e := 17) rfl (u16.w (u15.w h17_14))) (ex_bin (vy := (.int .i64 0)) (v := (.bool false)) h19_16 rfl ((bo_ltn num 0 _).trans (by rw [decide_eq_false (by omega)]))) fun a17 u17 F17 h20_17 => ?_
 have h17_17 := u17.w (u16.w (u15.w h17_14))
 refine wl_pq F17 (ex_pick (q := false) h17_17 h20_17) fun a18 u18 F18 h21_18 => ?_
 refine wl_pq F18 (ex_mv h21_18) fun a19 u19 F19 h22_19 => ?_
 have h3_19 := u19.w (u18.w (u17.w (u16.w (u15.w h3_14))))
 refine wl_gq F19 (yl (e := 22) rfl h22_19) (ex_fb 12 h3_19) fun a20 u20 F20 h23_20 => ?_
 refine wl_gq F20 (yl (e := 22) rfl (u20.w h22_19)) (ex_le (v := (.int .i64 num)) h23_20 (B3_2.cell 12)) fun a21 u21 F21 h24_21 => ?_
 refine wl_gq F21 (yl (e := 22) rfl (u21.w (u20.w h22_19))) (ex_bin (vy := (.int .i64 255)) (v := (.bool false)) h24_21 rfl ((bo_gtn num 255 _).trans (by rw [decide_eq_false (by omega)]))) fun a22 u22 F22 h25_22 => ?_
 have h22_22 := u22.w (u21.w (u20.w h22_19))
 refine wl_pq F22 (ex_pick (q := false) h22_22 h25_22) fun a23 u23 F23 h26_23 => ?_
 change Code.wp _ _ _ _ _
 refine wp_cond_false h26_23 ?_
 refine wp_skip ?_
 change Code.wp _ _ _ _ _
 refine wp_sr ?_
 refine wl_pq F23 (ex_as (v := .nilIface) rfl) fun a24 u24 F24 h7_24 => ?_
 change Code.wp _ _ _ _ _
 refine wp_seq ?_
 refine wp_sr ?_
 have h3_24 := u24.w (u23.w (u22.w (u21.w (u20.w h3_19))))
 refine wl_pq F24 (ex_fb 0 h3_24) fun a25 u25 F25 h27_25 => ?_
 refine wl_pq F25 (ex_le (v := (.int .i64 1)) h27_25 (B3_2.cell 0)) fun a26 u26 F26 h28_26 => ?_
 change Code.wp _ _ _ _ _
 refine wp_block ?_
 refine wp_sr ?_
 refine wl_pq F26 (ex_bin (vy := (.int .i64 0)) (v := (.bool false)) h28_26 rfl (by kernel_rfl)) fun a27 u27 F27 h30_27 => ?_
 refine wl_pq F27 (ex_as h30_27) fun a28 u28 F28 h29_28 => ?_
 change Code.wp _ _ _ _ _
 refine wp_cond_false h29_28 ?_
 refine wp_sr ?_
 refine wl_pq F28 (ex_bin (vy := (.int .i64 1)) (v := (.bool true)) (u28.w (u27.w h28_26)) rfl (by kernel_rfl)) fun a29 u29 F29 h35_29 => ?_
 refine wl_pq F29 (ex_as h35_29) fun a30 u30 F30 h34_30 => ?_
 change Code.wp _ _ _ _ _
 refine wp_cond_true h34_30 ?_
 refine rg_list ?_
 have h0_30 := u30.w (u29.w (u28.w (u27.w (u26.w (u25.w (u24.w (u23.w (u22.w (u21.w (u20.w (u19.w (u18.w (u17.w (u16.w (u15.w (u14.w (u13.w (u12.w (u11.w (u10.w (u9.w (u8.w (u7.w (u6.w (u5.w (u4.w (u3.w (u2.w (u1.w h0_0)))))))))))))))))))))))))))))
 refine wl_pq F30 (ex_mv h0_30) fun a31 u31 F31 h36_31 => ?_
 refine wl_cl (args := #[(.pointer (some ⟨b, 0, none⟩))]) (R := fun v w' => Er v (decide (d.segs.length ≠ 0)) ∧ PlS w' B b (d.take) ∧ Kt B DP w2 w') (ex_cl (fun _ _ => by kernel_rfl) (arg1 h36_31)) ((rem_any hO hk H_2.toS).mono fun _ _ h => h) F31.l ?_
 rintro vr w3 ⟨hE, hS, K3⟩
 have KK := ((Kt.refl B DP w0).nw hw0 Q_2).trans K3
 intro a32 u32 h37_32
 have F32 := F31.pt u32
 refine wl_pq F32 (ex_as h37_32) fun a33 u33 F33 h7_33 => ?_
 change Code.wp _ _ _ _ _
 refine wp_sr ?_
 refine wl_pq F33 (ex_mv h7_33) fun a34 u34 F34 h250_34 => ?_
 refine wl_pq F34 (ex_bin (vy := .nilIface) (v := (.bool (decide (d.segs.length ≠ 0)))) h250_34 rfl (er_eq hE _)) fun a35 u35 F35 h251_35 => ?_
 refine wl_pq F35 (ex_as h251_35) fun a36 u36 F36 h4_36 => ?_
 refine wl_pq F36 (ex_as (v := (.bool true)) rfl) fun a37 u37 F37 h5_37 => ?_
 change Code.wp _ _ _ _ _
 refine wp_ret ?_
 try simp only [Exit.then, Exit.inBlock]
 exact bodyPost_ret (v := .tuple #[(.bool (decide (d.segs.length ≠ 0))), (.bool true)]) ((results_tmp2 rfl _ _ _).trans (by rw [(u37.w h4_36), h5_37])) F37.defers ⟨rfl, hS, KK⟩
theorem step_2 {d : WinD} {k B b num : Nat} {s : SegD} {kv mv : Value} {w0 : World} (hO : d.Ok k) (hk9 : k < 900) (H_0 : PlS w0 B b d) (he : s.e < 160) (hnum : num ≤ 255) (ks_0 : KeySl w0 kv s.key) (ms_0 : MapSl w0 mv s.map) : Calls Tryd.prog 28 #[pt b, .agg #[(.int .i64 2), (.int .u64 0), (.string s.title), (.string s.uri), (.float .f64 (fb s.e)), (.int .i64 s.li), (.int .i64 s.off), kv, mv, (.slice none 0 0), (.bool s.disc), (.string s.date), (.int .i64 num)]] w0 fun e w' => e = .returned (.tuple #[.bool true, .bool true]) ∧ PlS w' B b (d.slide (bare s.uri s.title s.e)) ∧ Kt B DP w0 w' := by
 have hw0 := H_0.hw_
 have hk : k ≤ 900 := Nat.le_of_lt hk9
 refine calls_of_wp Tryd.func28 rfl ?_
 generalize hA : Act.mk _ _ = a0
 have F0 : Fz 252 a0 := by subst hA; exact ⟨by simp [Tryd.ntmps28], rfl⟩
 have h0_0 : a0.tmps.getD 0 undef = (.pointer (some ⟨b, 0, none⟩)) := by subst hA; exact fr_arg rfl
 have h1_0 : a0.tmps.getD 1 undef = (.agg #[(.int .i64 2), (.int .u64 0), (.string s.title), (.string s.uri), (.float .f64 (fb s.e)), (.int .i64 s.li), (.int .i64 s.off), kv, mv, (.slice none 0 0), (.bool s.disc), (.string s.date), (.int .i64 num)]) := by subst hA; exact fr_arg rfl
 have Q_0 := grown_refl w0 none
 refine wp_sr ?_
 obtain ⟨g3, hg3⟩ : ∃ g, w0.heap.size = g := ⟨_, rfl⟩
 obtain ⟨w1, hr1, B3_1, G1, hs1⟩ := al_run (op := Instr.box 44 (.agg #[(.int .i64 2), (.int .u64 0), (.string s.title), (.string s.uri), (.float .f64 (fb s.e)), (.int .i64 s.li), (.int .i64 s.off), kv, mv, (.slice none 0 0), (.bool s.disc), (.string s.date), (.int .i64 num)])) (T := 44) (cs := #[(.int .i64 2), (.int .u64 0), (.string s.title), (.string s.uri), (.float .f64 (fb s.e)), (.int .i64 s.li), (.int .i64 s.off), kv, mv, (.slice none 0 0), (.bool s.disc), (.string s.date), (.int .i64 num)]) hg3 (fun _ => by kernel_rfl)
 have Q_1 := grown_trans Q_0 G1
 have ks_1 := ks_0.gn G1
 have ms_1 := ms_0.gn G1
 have H_1 := H_0.gn G1
 refine wl_pq F0 (ex_bx h1_0 hr1) fun a1 u1 F1 (h3_1 : a1.tmps.getD 3 undef = (.pointer (some ⟨g3, 0, none⟩))) => ?_
 clear Q_0 H_0
 refine wl_pq F1 (ex_as (v := (.bool false)) rfl) fun a2 u2 F2 h4_2 => ?_
 refine wl_pq F2 (ex_as (v := (.bool false)) rfl) fun a3 u3 F3 h5_3 => ?_
 change Code.wp _ _ _ _ _
 refine wp_sr ?_
 refine wl_pq F3 (ex_fb 1 (u3.w (u2.w h3_1))) fun a4 u4 F4 h8_4 => ?_
 refine wl_pq F4 (ex_lda h8_4 (ld_agg (n := 11) (o := 1) (xs := #[(.int .u64 0), (.string s.title), (.string s.uri), (.float .f64 (fb s.e)), (.int .i64 s.li), (.int .i64 s.off), kv, mv, (.slice none 0 0), (.bool s.disc), (.string s.date)]) (fun _ => by kernel_rfl) (fun _ => by kernel_rfl) B3_1 rfl (fun k hk => by rcases k with _ | _ | _ | _ | _ | _ | _ | _ | _ | _ | _ | k <;> first | rfl | omega))) fun a5 u5 F5 (h9_5 : a5.tmps.getD 9 undef = (.agg #[(.int .u64 0), (.string s.title), (.string s.uri), (.float .f64 (fb s.e)), (.int .i64 s.li), (.int .i64 s.off), kv, mv, (.slice none 0 0), (.bool s.disc), (.string s.date)])) => ?_
 refine wl_cl (args := #[(.agg #[(.int .u64 0), (.string s.title), (.string s.uri), (.float .f64 (fb s.e)), (.int .i64 s.li), (.int .i64 s.off), kv, mv, (.slice none 0 0), (.bool s.disc), (.string s.date)])]) (R := fun v w' => ∃ q kp mp, v = pt q ∧ Blk w' q 95 (segC 0 s kp mp) ∧ KeyP w' w1.heap.size kp s.key ∧ MapP w' w1.heap.size mp s.map ∧ w1.heap.size ≤ q ∧ w1.grownBy w' none) (ex_cl (fun _ _ => by kernel_rfl) (arg1 h9_5)) ((segmentTo_any ks_1 ms_1).mono fun _ _ ⟨q, kp, mp, h, r⟩ => ⟨_, h, q, kp, mp, rfl, r⟩) F5.l ?_
 rintro v w2 ⟨q, kq, mq, rfl, Bq_2, kq0, mq0, hq, G2⟩
 have B3_2 := B3_1.gn G2
 have Q_2 := grown_trans Q_1 G2
 have ks_2 := ks_1.gn G2
 have ms_2 := ms_1.gn G2
 have H_2 := H_1.toQ G2 hq
 have hBq : B ≤ q := Nat.le_trans H_1.hw_ hq
 have kq_2 := kq0.lo' H_1.hw_
 have mq_2 := mq0.lo' H_1.hw_
 intro a6 u6 h10_6
 have F6 := F5.pt u6
 clear Q_1 H_1
 refine wl_pq F6 (ex_as h10_6) fun a7 u7 F7 h6_7 => ?_
 change Code.wp _ _ _ _ _
 refine wp_seq ?_
 refine wp_sr ?_
 refine wl_pq F7 (ex_mv h6_7) fun a8 u8 F8 h11_8 => ?_
 refine wl_pq F8 (ex_nil h11_8) fun a9 u9 F9 h12_9 => ?_
 refine wl_pq F9 (ex_fb 3 h12_9) fun a10 u10 F10 h13_10 => ?_
 refine wl_pq F10 (ex_le (v := (.float .f64 (fb s.e))) h13_10 (Bq_2.cell 3)) fun a11 u11 F11 h14_11 => ?_
 refine wl_cl (args := #[(.float .f64 (fb s.e))]) (R := fun v w' => v = (.bool true) ∧ w2 = w') (ex_cl (fun _ _ => by kernel_rfl) (arg1 h14_11)) ((plain_any s.e (by omega) _).mono fun _ _ h => ⟨_, h.1, rfl, h.2⟩) F11.l ?_
 rintro v w' ⟨rfl, rfl⟩
 intro a12 u12 h15_12
 have F12 := F11.pt u12
 refine wl_pq F12 (ex_un (vx := (.bool true)) (v := (.bool false)) h15_12 rfl) fun a13 u13 F13 h16_13 => ?_
 refine wl_pq F13 (ex_mv h16_13) fun a14 u14 F14 h17_14 => ?_
 have h3_14 := u14.w (u13.w (u12.w (u11.w (u10.w (u9.w (u8.w (u7.w (u6.w (u5.w (u4.w (u3.w (u2.w h3_1))))))))))))
 refine wl_gq F14 (yl (e := 17) rfl h17_14) (ex_fb 12 h3_14) fun a15 u15 F15 h18_15 => ?_
 refine wl_gq F15 (yl (e := 17) rfl (u15.w h17_14)) (ex_le (v := (.int .i64 num)) h18_15 (B3_2.cell 12)) fun a16 u16 F16 h19_16 => ?_
 refine wl_gq F16 (yl (e := 17) rfl (u16.w (u15.w h17_14))) (ex_bin (vy := (.int .i64 0)) (v := (.bool false)) h19_16 rfl ((bo_ltn num 0 _).trans (by rw [decide_eq_false (by omega)]))) fun a17 u17 F17 h20_17 => ?_
 have h17_17 := u17.w (u16.w (u15.w h17_14))
 refine wl_pq F17 (ex_pick (q := false) h17_17 h20_17) fun a18 u18 F18 h21_18 => ?_
 refine wl_pq F18 (ex_mv h21_18) fun a19 u19 F19 h22_19 => ?_
 have h3_19 := u19.w (u18.w (u17.w (u16.w (u15.w h3_14))))
 refine wl_gq F19 (yl (e := 22) rfl h22_19) (ex_fb 12 h3_19) fun a20 u20 F20 h23_20 => ?_
 refine wl_gq F20 (yl (e := 22) rfl (u20.w h22_19)) (ex_le (v := (.int .i64 num)) h23_20 (B3_2.cell 12)) fun a21 u21 F21 h24_21 => ?_
 refine wl_gq F21 (yl (e := 22) rfl (u21.w (u20.w h22_19))) (ex_bin (vy := (.int .i64 255)) (v := (.bool false)) h24_21 rfl ((bo_gtn num 255 _).trans (by rw [decide_eq_false (by omega)]))) fun a22 u22 F22 h25_22 => ?_
 have h22_22 := u22.w (u21.w (u20.w h22_19))
 refine wl_pq F22 (ex_pick (q := false) h22_22 h25_22) fun a23 u23 F23 h26_23 => ?_
 change Code.wp _ _ _ _ _
 refine wp_cond_false h26_23 ?_
 refine wp_skip ?_
 change Code.wp _ _ _ _ _
 refine wp_sr ?_
 refine wl_pq F23 (ex_as (v := .nilIface) rfl) fun a24 u24 F24 h7_24 => ?_
 change Code.wp _ _ _ _ _
 refine wp_seq ?_
 refine wp_sr ?_
 have h3_24 := u24.w (u23.w (u22.w (u21.w (u20.w h3_19))))
 refine wl_pq F24 (ex_fb 0 h3_24) fun a25 u25 F25 h27_25 => ?_
 refine wl_pq F25 (ex_le (v := (.int .i64 2)) h27_25 (B3_2.cell 0)) fun a26 u26 F26 h28_26 => ?_
 change Code.wp _ _ _ _ _
 refine wp_block ?_
 refine wp_sr ?_
 refine wl_pq F26 (ex_bin (vy := (.int .i64 0)) (v := (.bool false)) h28_26 rfl (by kernel_rfl)) fun a27 u27 F27 h30_27 => ?_
 refine wl_pq F27 (ex_as h30_27) fun a28 u28 F28 h29_28 => ?_
 change Code.wp _ _ _ _ _
 refine wp_cond_false h29_28 ?_
 refine wp_sr ?_
 refine wl_pq F28 (ex_bin (vy := (.int .i64 1)) (v := (.bool false)) (u28.w (u27.w h28_26)) rfl (by kernel_rfl)) fun a29 u29 F29 h35_29 => ?_
 refine wl_pq F29 (ex_as h35_29) fun a30 u30 F30 h34_30 => ?_
 change Code.wp _ _ _ _ _
 refine wp_cond_false h34_30 ?_
 refine wp_sr ?_
 have h28_30 := u30.w (u29.w (u28.w (u27.w h28_26)))
 refine wl_pq F30 (ex_bin (vy := (.int .i64 2)) (v := (.bool true)) h28_30 rfl (by kernel_rfl)) fun a31 u31 F31 h39_31 => ?_
 refine wl_pq F31 (ex_as h39_31) fun a32 u32 F32 h38_32 => ?_
 change Code.wp _ _ _ _ _
 refine wp_cond_true h38_32 ?_
 obtain ⟨w3, hw3⟩ : ∃ w, w = w2.drew := ⟨_, rfl⟩
 have G3 : w2.grownBy w3 none := hw3 ▸ grown_drew _
 have B3_3 := B3_2.gn G3
 have Bq_3 := Bq_2.gn G3
 have Q_3 := grown_trans Q_2 G3
 have ks_3 := ks_2.gn G3
 have ms_3 := ms_2.gn G3
 have H_3 := H_2.gn G3
 have kq_3 := kq_2.gn G3
 have mq_3 := mq_2.gn G3
 refine rg_stillt 13 hw3 hmix (by kernel_rfl) ?_
 clear Q_2 H_2 kq_2 mq_2
 have h0_32 := u32.w (u31.w (u30.w (u29.w (u28.w (u27.w (u26.w (u25.w (u24.w (u23.w (u22.w (u21.w (u20.w (u19.w (u18.w (u17.w (u16.w (u15.w (u14.w (u13.w (u12.w (u11.w (u10.w (u9.w (u8.w (u7.w (u6.w (u5.w (u4.w (u3.w (u2.w (u1.w h0_0)))))))))))))))))))))))))))))))
 refine st_pq F32 (ex_mv h0_32) fun a33 u33 F33 h40_33 => ?_
 have h6_33 := u33.w (u32.w (u31.w (u30.w (u29.w (u28.w (u27.w (u26.w (u25.w (u24.w (u23.w (u22.w (u21.w (u20.w (u19.w (u18.w (u17.w (u16.w (u15.w (u14.w (u13.w (u12.w (u11.w (u10.w (u9.w (u8.w h6_7)))))))))))))))))))))))))
 refine st_pq F33 (ex_mv h6_33) fun a34 u34 F34 h41_34 => ?_
 refine st_pq F34 (ex_nil h41_34) fun a35 u35 F35 h42_35 => ?_
 refine st_pq F35 (ex_fb 2 h42_35) fun a36 u36 F36 h43_36 => ?_
 refine st_pq F36 (ex_le (v := (.string s.uri)) h43_36 (Bq_3.cell 2)) fun a37 u37 F37 h44_37 => ?_
 have h6_37 := u37.w (u36.w (u35.w (u34.w h6_33)))
 refine st_pq F37 (ex_mv h6_37) fun a38 u38 F38 h45_38 => ?_
 refine st_pq F38 (ex_nil h45_38) fun a39 u39 F39 h46_39 => ?_
 refine st_pq F39 (ex_fb 3 h46_39) fun a40 u40 F40 h47_40 => ?_
 refine st_pq F40 (ex_le (v := (.float .f64 (fb s.e))) h47_40 (Bq_3.cell 3)) fun a41 u41 F41 h48_41 => ?_
 have h6_41 := u41.w (u40.w (u39.w (u38.w h6_37)))
 refine st_pq F41 (ex_mv h6_41) fun a42 u42 F42 h49_42 => ?_
 refine st_pq F42 (ex_nil h49_42) fun a43 u43 F43 h50_43 => ?_
 refine st_pq F43 (ex_fb 1 h50_43) fun a44 u44 F44 h51_44 => ?_
 refine st_pq F44 (ex_le (v := (.string s.title)) h51_44 (Bq_3.cell 1)) fun a45 u45 F45 h52_45 => ?_
 have h40_45 := u45.w (u44.w (u43.w (u42.w (u41.w (u40.w (u39.w (u38.w (u37.w (u36.w (u35.w (u34.w h40_33)))))))))))
 have h44_45 := u45.w (u44.w (u43.w (u42.w (u41.w (u40.w (u39.w (u38.w h44_37)))))))
 have h48_45 := u45.w (u44.w (u43.w (u42.w h48_41)))
 refine wl_cl (args := #[(.pointer (some ⟨b, 0, none⟩)), (.string s.uri), (.float .f64 (fb s.e)), (.string s.title)]) (R := fun v w' => v = .tuple #[] ∧ PlS w' B b (d.slide (bare s.uri s.title s.e)) ∧ Kt B DP w3 w') (ex_cl (fun _ _ => by kernel_rfl) (arg4 h40_45 h44_45 h48_45 h52_45)) ((slidep_any hO hk9 H_3.toS he).mono fun _ _ h => ⟨_, h.1, rfl, h.2⟩) F45.l ?_
 rintro v w4 ⟨rfl, hS, K4⟩
 have KK := ((Kt.refl B DP w0).nw hw0 Q_3).trans K4
 intro a46 u46 h53_46
 have F46 := F45.pt u46
 change Code.wp _ _ _ _ _
 refine wp_sr ?_
 have h7_46 := u46.w (u45.w (u44.w (u43.w (u42.w (u41.w (u40.w (u39.w (u38.w (u37.w (u36.w (u35.w (u34.w (u33.w (u32.w (u31.w (u30.w (u29.w (u28.w (u27.w (u26.w (u25.w h7_24)))))))))))))))))))))
 refine wl_pq F46 (ex_mv h7_46) fun a47 u47 F47 h250_47 => ?_
 refine wl_pq F47 (ex_bin (vy := .nilIface) (v := (.bool true)) h250_47 rfl (by kernel_rfl)) fun a48 u48 F48 h251_48 => ?_
 refine wl_pq F48 (ex_as h251_48) fun a49 u49 F49 h4_49 => ?_
 refine wl_pq F49 (ex_as (v := (.bool true)) rfl) fun a50 u50 F50 h5_50 => ?_
 change Code.wp _ _ _ _ _
 refine wp_ret ?_
 try simp only [Exit.then, Exit.inBlock]
 exact bodyPost_ret (v := .tuple #[(.bool true), (.bool true)]) ((results_tmp2 rfl _ _ _).trans (by rw [(u50.w h4_49), h5_50])) F50.defers ⟨rfl, hS, KK⟩
theorem step_3 {d : WinD} {k B b num : Nat} {s : SegD} {kv mv : Value} {w0 : World} (hO : d.Ok k) (hk9 : k < 900) (H_0 : PlS w0 B b d) (he : s.e < 160) (hnum : num ≤ 255) (ks_0 : KeySl w0 kv s.key) (ms_0 : MapSl w0 mv s.map) : Calls Tryd.prog 28 #[pt b, .agg #[(.int .i64 3), (.int .u64 0), (.string s.title), (.string s.uri), (.float .f64 (fb s.e)), (.int .i64 s.li), (.int .i64 s.off), kv, mv, (.slice none 0 0), (.bool s.disc), (.string s.date), (.int .i64 num)]] w0 fun e w' => e = .returned (.tuple #[.bool true, .bool true]) ∧ PlS w' B b ({ d with clo := true }) ∧ Kt B DP w0 w' := by
 have hw0 := H_0.hw_
 have hk : k ≤ 900 := Nat.le_of_lt hk9
 refine calls_of_wp Tryd.func28 rfl ?_
 generalize hA : Act.mk _ _ = a0
 have F0 : Fz 252 a0 := by subst hA; exact ⟨by simp [Tryd.ntmps28], rfl⟩
 have h0_0 : a0.tmps.getD 0 undef = (.pointer (some ⟨b, 0, none⟩)) := by subst hA; exact fr_arg rfl
 have h1_0 : a0.tmps.getD 1 undef = (.agg #[(.int .i64 3), (.int .u64 0), (.string s.title), (.string s.uri), (.float .f64 (fb s.e)), (.int .i64 s.li), (.int .i64 s.off), kv, mv, (.slice none 0 0), (.bool s.disc), (.string s.date), (.int .i64 num)]) := by subst hA; exact fr_arg rfl
 have Q_0 := grown_refl w0 none
 refine wp_sr ?_
 obtain ⟨g3, hg3⟩ : ∃ g, w0.heap.size = g := ⟨_, rfl⟩
 obtain ⟨w1, hr1, B3_1, G1, hs1⟩ := al_run (op := Instr.box 44 (.agg #[(.int .i64 3), (.int .u64 0), (.string s.title), (.string s.uri), (.float .f64 (fb s.e)), (.int .i64 s.li), (.int .i64 s.off), kv, mv, (.slice none 0 0), (.bool s.disc), (.string s.date), (.int .i64 num)])) (T := 44) (cs := #[(.int .i64 3), (.int .u64 0), (.string s.title), (.string s.uri), (.float .f64 (fb s.e)), (.int .i64 s.li), (.int .i64 s.off), kv, mv, (.slice none 0 0), (.bool s.disc), (.string s.date), (.int .i64 num)]) hg3 (fun _ => by kernel_rfl)
 have Q_1 := grown_trans Q_0 G1
 have ks_1 := ks_0.gn G1
 have ms_1 := ms_0.gn G1
 have H_1 := H_0.gn G1
 refine wl_pq F0 (ex_bx h1_0 hr1) fun a1 u1 F1 (h3_1 : a1.tmps.getD 3 undef = (.pointer (some ⟨g3, 0, none⟩))) => ?_
 clear Q_0 H_0
 refine wl_pq F1 (ex_as (v := (.bool false)) rfl) fun a2 u2 F2 h4_2 => ?_
 refine wl_pq F2 (ex_as (v := (.bool false)) rfl) fun a3 u3 F3 h5_3 => ?_
 change Code.wp _ _ _ _ _
 refine wp_sr ?_
 refine wl_pq F3 (ex_fb 1 (u3.w (u2.w h3_1))) fun a4 u4 F4 h8_4 => ?_
 refine wl_pq F4 (ex_lda h8_4 (ld_agg (n := 11) (o := 1) (xs := #[(.int .u64 0), (.string s.title), (.string s.uri), (.float .f64 (fb s.e)), (.int .i64 s.li), (.int .i64 s.off), kv, mv, (.slice none 0 0), (.bool s.disc), (.string s.date)]) (fun _ => by kernel_rfl) (fun _ => by kernel_rfl) B3_1 rfl (fun k hk => by rcases k with _ | _ | _ | _ | _ | _ | _ | _ | _ | _ | _ | k <;> first | rfl | omega))) fun a5 u5 F5 (h9_5 : a5.tmps.getD 9 undef = (.agg #[(.int .u64 0), (.string s.title), (.string s.uri), (.float .f64 (fb s.e)), (.int .i64 s.li), (.int .i64 s.off), kv, mv, (.slice none 0 0), (.bool s.disc), (.string s.date)])) => ?_
 refine wl_cl (args := #[(.agg #[(.int .u64 0), (.string s.title), (.string s.uri), (.float .f64 (fb s.e)), (.int .i64 s.li), (.int .i64 s.off), kv, mv, (.slice none 0 0), (.bool s.disc), (.string s.date)])]) (R := fun v w' => ∃ q kp mp, v = pt q ∧ Blk w' q 95 (segC 0 s kp mp) ∧ KeyP w' w1.heap.size kp s.key ∧ MapP w' w1.heap.size mp s.map ∧ w1.heap.size ≤ q ∧ w1.grownBy w' none) (ex_cl (fun _ _ => by kernel_rfl) (arg1 h9_5)) ((segmentTo_any ks_1 ms_1).mono fun _ _ ⟨q, kp, mp, h, r⟩ => ⟨_, h, q, kp, mp, rfl, r⟩) F5.l ?_
 rintro v w2 ⟨q, kq, mq, rfl, Bq_2, kq0, mq0, hq, G2⟩
 have B3_2 := B3_1.gn G2
 have Q_2 := grown_trans Q_1 G2
 have ks_2 := ks_1.gn G2
 have ms_2 := ms_1.gn G2
 have H_2 := H_1.toQ G2 hq
 have hBq : B ≤ q := Nat.le_trans H_1.hw_ hq
 have kq_2 := kq0.lo' H_1.hw_
 have mq_2 := mq0.lo' H_1.hw_
 intro a6 u6 h10_6
 have F6 := F5.pt u6
 clear Q_1 H_1
 refine wl_pq F6 (ex_as h10_6) fun a7 u7 F7 h6_7 => ?_
 change Code.wp _ _ _ _ _
 refine wp_seq ?_
 refine wp_sr ?_
 refine wl_pq F7 (ex_mv h6_7) fun a8 u8 F8 h11_8 => ?_
 refine wl_pq F8 (ex_nil h11_8) fun a9 u9 F9 h12_9 => ?_
 refine wl_pq F9 (ex_fb 3 h12_9) fun a10 u10 F10 h13_10 => ?_
 refine wl_pq F10 (ex_le (v := (.float .f64 (fb s.e))) h13_10 (Bq_2.cell 3)) fun a11 u11 F11 h14_11 => ?_
 refine wl_cl (args := #[(.float .f64 (fb s.e))]) (R := fun v w' => v = (.bool true) ∧ w2 = w') (ex_cl (fun _ _ => by kernel_rfl) (arg1 h14_11)) ((plain_any s.e (by omega) _).mono fun _ _ h => ⟨_, h.1, rfl, h.2⟩) F11.l ?_
 rintro v w' ⟨rfl, rfl⟩
 intro a12 u12 h15_12
 have F12 := F11.pt u12
 refine wl_pq F12 (ex_un (vx := (.bool true)) (v := (.bool false)) h15_12 rfl) fun a13 u13 F13 h16_13 => ?_
 refine wl_pq F13 (ex_mv h16_13) fun a14 u14 F14 h17_14 => ?_
 have h3_14 := u14.w (u13.w (u12.w (u11.w (u10.w (u9.w (u8.w (u7.w (u6.w (u5.w (u4.w (u3.w (u2.w h3_1))))))))))))
 refine wl_gq F14 (yl (e := 17) rfl h17_14) (ex_fb 12 h3_14) fun a15 u15 F15 h18_15 => ?_
 refine wl_gq F15 (yl (e := 17) rfl (u15.w h17_14)) (ex_le (v := (.int .i64 num)) h18_15 (B3_2.cell 12)) fun a16 u16 F16 h19_16 => ?_
 refine wl_gq F16 (yl (e := 17) rfl (u16.w (u15.w h17_14))) (ex_bin (vy := (.int .i64 0)) (v := (.bool false)) h19_16 rfl ((bo_ltn num 0 _).trans (by rw [decide_eq_false (by omega)]))) fun a17 u17 F17 h20_17 => ?_
 have h17_17 := u17.w (u16.w (u15.w h17_14))
 refine wl_pq F17 (ex_pick (q := false) h17_17 h20_17) fun a18 u18 F18 h21_18 => ?_
 refine wl_pq F18 (ex_mv h21_18) fun a19 u19 F19 h22_19 => ?_
 have h3_19 := u19.w (u18.w (u17.w (u16.w (u15.w h3_14))))
 refine wl_gq F19 (yl (e := 22) rfl h22_19) (ex_fb 12 h3_19) fun a20 u20 F20 h23_20 => ?_
 refine wl_gq F20 (yl (e := 22) rfl (u20.w h22_19)) (ex_le (v := (.int .i64 num)) h23_20 (B3_2.cell 12)) fun a21 u21 F21 h24_21 => ?_
 refine wl_gq F21 (yl (e := 22) rfl (u21.w (u20.w h22_19))) (ex_bin (vy := (.int .i64 255)) (v := (.bool false)) h24_21 rfl ((bo_gtn num 255 _).trans (by rw [decide_eq_false (by omega)]))) fun a22 u22 F22 h25_22 => ?_
 have h22_22 := u22.w (u21.w (u20.w h22_19))
 refine wl_pq F22 (ex_pick (q := false) h22_22 h25_22) fun a23 u23 F23 h26_23 => ?_
 change Code.wp _ _ _ _ _
 refine wp_cond_false h26_23 ?_
 refine wp_skip ?_
 change Code.wp _ _ _ _ _
 refine wp_sr ?_
 refine wl_pq F23 (ex_as (v := .nilIface) rfl) fun a24 u24 F24 h7_24 => ?_
 change Code.wp _ _ _ _ _
 refine wp_seq ?_
 refine wp_sr ?_
 have h3_24 := u24.w (u23.w (u22.w (u21.w (u20.w h3_19))))
 refine wl_pq F24 (ex_fb 0 h3_24) fun a25 u25 F25 h27_25 => ?_
 refine wl_pq F25 (ex_le (v := (.int .i64 3)) h27_25 (B3_2.cell 0)) fun a26 u26 F26 h28_26 => ?_
 change Code.wp _ _ _ _ _
 refine wp_block ?_
 refine wp_sr ?_
 refine wl_pq F26 (ex_bin (vy := (.int .i64 0)) (v := (.bool false)) h28_26 rfl (by kernel_rfl)) fun a27 u27 F27 h30_27 => ?_
 refine wl_pq F27 (ex_as h30_27) fun a28 u28 F28 h29_28 => ?_
 change Code.wp _ _ _ _ _
 refine wp_cond_false h29_28 ?_
 refine wp_sr ?_
 refine wl_pq F28 (ex_bin (vy := (.int .i64 1)) (v := (.bool false)) (u28.w (u27.w h28_26)) rfl (by kernel_rfl)) fun a29 u29 F29 h35_29 => ?_
 refine wl_pq F29 (ex_as h35_29) fun a30 u30 F30 h34_30 => ?_
 change Code.wp _ _ _ _ _
 refine wp_cond_false h34_30 ?_
 refine wp_sr ?_
 have h28_30 := u30.w (u29.w (u28.w (u27.w h28_26)))
 refine wl_pq F30 (ex_bin (vy := (.int .i64 2)) (v := (.bool false)) h28_30 rfl (by kernel_rfl)) fun a31 u31 F31 h39_31 => ?_
 refine wl_pq F31 (ex_as h39_31) fun a32 u32 F32 h38_32 => ?_
 change Code.wp _ _ _ _ _
 refine wp_cond_false h38_32 ?_
 refine wp_sr ?_
 refine wl_pq F32 (ex_bin (vy := (.int .i64 3)) (v := (.bool true)) (u32.w (u31.w h28_30)) rfl (by kernel_rfl)) fun a33 u33 F33 h55_33 => ?_
 refine wl_pq F33 (ex_as h55_33) fun a34 u34 F34 h54_34 => ?_
 change Code.wp _ _ _ _ _
 refine wp_cond_true h54_34 ?_
 refine rg_list ?_
 have h0_34 := u34.w (u33.w (u32.w (u31.w (u30.w (u29.w (u28.w (u27.w (u26.w (u25.w (u24.w (u23.w (u22.w (u21.w (u20.w (u19.w (u18.w (u17.w (u16.w (u15.w (u14.w (u13.w (u12.w (u11.w (u10.w (u9.w (u8.w (u7.w (u6.w (u5.w (u4.w (u3.w (u2.w (u1.w h0_0)))))))))))))))))))))))))))))))))
 refine wl_pq F34 (ex_mv h0_34) fun a35 u35 F35 h56_35 => ?_
 refine wl_cl (args := #[(.pointer (some ⟨b, 0, none⟩))]) (R := fun v w' => v = .tuple #[] ∧ PlS w' B b ({ d with clo := true }) ∧ Kt B DP w2 w') (ex_cl (fun _ _ => by kernel_rfl) (arg1 h56_35)) ((close_any hO hk H_2.toS).mono fun _ _ h => ⟨_, h.1, rfl, h.2⟩) F35.l ?_
 rintro v w3 ⟨rfl, hS, K3⟩
 have KK := ((Kt.refl B DP w0).nw hw0 Q_2).trans K3
 intro a36 u36 h57_36
 have F36 := F35.pt u36
 change Code.wp _ _ _ _ _
 refine wp_sr ?_
 have h7_36 := u36.w (u35.w (u34.w (u33.w (u32.w (u31.w (u30.w (u29.w (u28.w (u27.w (u26.w (u25.w h7_24)))))))))))
 refine wl_pq F36 (ex_mv h7_36) fun a37 u37 F37 h250_37 => ?_
 refine wl_pq F37 (ex_bin (vy := .nilIface) (v := (.bool true)) h250_37 rfl (by kernel_rfl)) fun a38 u38 F38 h251_38 => ?_
 refine wl_pq F38 (ex_as h251_38) fun a39 u39 F39 h4_39 => ?_
 refine wl_pq F39 (ex_as (v := (.bool true)) rfl) fun a40 u40 F40 h5_40 => ?_
 change Code.wp _ _ _ _ _
 refine wp_ret ?_
 try simp only [Exit.then, Exit.inBlock]
 exact bodyPost_ret (v := .tuple #[(.bool true), (.bool true)]) ((results_tmp2 rfl _ _ _).trans (by rw [(u40.w h4_39), h5_40])) F40.defers ⟨rfl, hS, KK⟩
theorem step_4 {d : WinD} {k B b num : Nat} {s : SegD} {kv mv : Value} {w0 : World} (hO : d.Ok k) (hk9 : k < 900) (H_0 : PlS w0 B b d) (he : s.e < 160) (hnum : num ≤ 255) (ks_0 : KeySl w0 kv s.key) (ms_0 : MapSl w0 mv s.map) : Calls Tryd.prog 28 #[pt b, .agg #[(.int .i64 4), (.int .u64 0), (.string s.title), (.string s.uri), (.float .f64 (fb s.e)), (.int .i64 s.li), (.int .i64 s.off), kv, mv, (.slice none 0 0), (.bool s.disc), (.string s.date), (.int .i64 num)]] w0 fun e w' => e = .returned (.tuple #[.bool (decide (num ≤ d.places)), .bool true]) ∧ PlS w' B b (d.swin num) ∧ Kt B DP w0 w' := by
 have hw0 := H_0.hw_
 have hk : k ≤ 900 := Nat.le_of_lt hk9
 refine calls_of_wp Tryd.func28 rfl ?_
 generalize hA : Act.mk _ _ = a0
 have F0 : Fz 252 a0 := by subst hA; exact ⟨by simp [Tryd.ntmps28], rfl⟩
 have h0_0 : a0.tmps.getD 0 undef = (.pointer (some ⟨b, 0, none⟩)) := by subst hA; exact fr_arg rfl
 have h1_0 : a0.tmps.getD 1 undef = (.agg #[(.int .i64 4), (.int .u64 0), (.string s.title), (.string s.uri), (.float .f64 (fb s.e)), (.int .i64 s.li), (.int .i64 s.off), kv, mv, (.slice none 0 0), (.bool s.disc), (.string s.date), (.int .i64 num)]) := by subst hA; exact fr_arg rfl
 have Q_0 := grown_refl w0 none
 refine wp_sr ?_
 obtain ⟨g3, hg3⟩ : ∃ g, w0.heap.size = g := ⟨_, rfl⟩
 obtain ⟨w1, hr1, B3_1, G1, hs1⟩ := al_run (op := Instr.box 44 (.agg #[(.int .i64 4), (.int .u64 0), (.string s.title), (.string s.uri), (.float .f64 (fb s.e)), (.int .i64 s.li), (.int .i64 s.off), kv, mv, (.slice none 0 0), (.bool s.disc), (.string s.date), (.int .i64 num)])) (T := 44) (cs := #[(.int .i64 4), (.int .u64 0), (.string s.title), (.string s.uri), (.float .f64 (fb s.e)), (.int .i64 s.li), (.int .i64 s.off), kv, mv, (.slice none 0 0), (.bool s.disc), (.string s.date), (.int .i64 num)]) hg3 (fun _ => by kernel_rfl)
 have Q_1 := grown_trans Q_0 G1
 have ks_1 := ks_0.gn G1
 have ms_1 := ms_0.gn G1
 have H_1 := H_0.gn G1
 refine wl_pq F0 (ex_bx h1_0 hr1) fun a1 u1 F1 (h3_1 : a1.tmps.getD 3 undef = (.pointer (some ⟨g3, 0, none⟩))) => ?_
 clear Q_0 H_0
 refine wl_pq F1 (ex_as (v := (.bool false)) rfl) fun a2 u2 F2 h4_2 => ?_
 refine wl_pq F2 (ex_as (v := (.bool false)) rfl) fun a3 u3 F3 h5_3 => ?_
 change Code.wp _ _ _ _ _
 refine wp_sr ?_
 refine wl_pq F3 (ex_fb 1 (u3.w (u2.w h3_1))) fun a4 u4 F4 h8_4 => ?_
 refine wl_pq F4 (ex_lda h8_4 (ld_agg (n := 11) (o := 1) (xs := #[(.int .u64 0), (.string s.title), (.string s.uri), (.float .f64 (fb s.e)), (.int .i64 s.li), (.int .i64 s.off), kv, mv, (.slice none 0 0), (.bool s.disc), (.string s.date)]) (fun _ => by kernel_rfl) (fun _ => by kernel_rfl) B3_1 rfl (fun k hk => by rcases k with _ | _ | _ | _ | _ | _ | _ | _ | _ | _ | _ | k <;> first | rfl | omega))) fun a5 u5 F5 (h9_5 : a5.tmps.getD 9 undef = (.agg #[(.int .u64 0), (.string s.title), (.string s.uri), (.float .f64 (fb s.e)), (.int .i64 s.li), (.int .i64 s.off), kv, mv, (.slice none 0 0), (.bool s.disc), (.string s.date)])) => ?_
 refine wl_cl (args := #[(.agg #[(.int .u64 0), (.string s.title), (.string s.uri), (.float .f64 (fb s.e)), (.int .i64 s.li), (.int .i64 s.off), kv, mv, (.slice none 0 0), (.bool s.disc), (.string s.date)])]) (R := fun v w' => ∃ q kp mp, v = pt q ∧ Blk w' q 95 (segC 0 s kp mp) ∧ KeyP w' w1.heap.size kp s.key ∧ MapP w' w1.heap.size mp s.map ∧ w1.heap.size ≤ q ∧ w1.grownBy w' none) (ex_cl (fun _ _ => by kernel_rfl) (arg1 h9_5)) ((segmentTo_any ks_1 ms_1).mono fun _ _ ⟨q, kp, mp, h, r⟩ => ⟨_, h, q, kp, mp, rfl, r⟩) F5.l ?_
 rintro v w2 ⟨q, kq, mq, rfl, Bq_2, kq0, mq0, hq, G2⟩
 have B3_2 := B3_1.gn G2
 have Q_2 := grown_trans Q_1 G2
 have ks_2 := ks_1.gn G2
 have ms_2 := ms_1.gn G2
 have H_2 := H_1.toQ G2 hq
 have hBq : B ≤ q := Nat.le_trans H_1.hw_ hq
 have kq_2 := kq0.lo' H_1.hw_
 have mq_2 := mq0.lo' H_1.hw_
 intro a6 u6 h10_6
 have F6 := F5.pt u6
 clear Q_1 H_1
 refine wl_pq F6 (ex_as h10_6) fun a7 u7 F7 h6_7 => ?_
 change Code.wp _ _ _ _ _
 refine wp_seq ?_
 refine wp_sr ?_
 refine wl_pq F7 (ex_mv h6_7) fun a8 u8 F8 h11_8 => ?_
 refine wl_pq F8 (ex_nil h11_8) fun a9 u9 F9 h12_9 => ?_
 refine wl_pq F9 (ex_fb 3 h12_9) fun a10 u10 F10 h13_10 => ?_
 refine wl_pq F10 (ex_le (v := (.float .f64 (fb s.e))) h13_10 (Bq_2.cell 3)) fun a11 u11 F11 h14_11 => ?_
 refine wl_cl (args := #[(.float .f64 (fb s.e))]) (R := fun v w' => v = (.bool true) ∧ w2 = w') (ex_cl (fun _ _ => by kernel_rfl) (arg1 h14_11)) ((plain_any s.e (by omega) _).mono fun _ _ h => ⟨_, h.1, rfl, h.2⟩) F11.l ?_
 rintro v w' ⟨rfl, rfl⟩
 intro a12 u12 h15_12
 have F12 := F11.pt u12
 refine wl_pq F12 (ex_un (vx := (.bool true)) (v := (.bool false)) h15_12 rfl) fun a13 u13 F13 h16_13 => ?_
 refine wl_pq F13 (ex_mv h16_13) fun a14 u14 F14 h17_14 => ?_
 have h3_14 := u14.w (u13.w (u12.w (u11.w (u10.w (u9.w (u8.w (u7.w (u6.w (u5.w (u4.w (u3.w (u2.w h3_1))))))))))))
 refine wl_gq F14 (yl (e := 17) rfl h17_14) (ex_fb 12 h3_14) fun a15 u15 F15 h18_15 => ?_
 refine wl_gq F15 (yl (e := 17) rfl (u15.w h17_14)) (ex_le (v := (.int .i64 num)) h18_15 (B3_2.cell 12)) fun a16 u16 F16 h19_16 => ?_
 refine wl_gq F16 (yl (e := 17) rfl (u16.w (u15.w h17_14))) (ex_bin (vy := (.int .i64 0)) (v := (.bool false)) h19_16 rfl ((bo_ltn num 0 _).trans (by rw [decide_eq_false (by omega)]))) fun a17 u17 F17 h20_17 => ?_
 have h17_17 := u17.w (u16.w (u15.w h17_14))
 refine wl_pq F17 (ex_pick (q := false) h17_17 h20_17) fun a18 u18 F18 h21_18 => ?_
 refine wl_pq F18 (ex_mv h21_18) fun a19 u19 F19 h22_19 => ?_
 have h3_19 := u19.w (u18.w (u17.w (u16.w (u15.w h3_14))))
 refine wl_gq F19 (yl (e := 22) rfl h22_19) (ex_fb 12 h3_19) fun a20 u20 F20 h23_20 => ?_
 refine wl_gq F20 (yl (e := 22) rfl (u20.w h22_19)) (ex_le (v := (.int .i64 num)) h23_20 (B3_2.cell 12)) fun a21 u21 F21 h24_21 => ?_
 refine wl_gq F21 (yl (e := 22) rfl (u21.w (u20.w h22_19))) (ex_bin (vy := (.int .i64 255)) (v := (.bool false)) h24_21 rfl ((bo_gtn num 255 _).trans (by rw [decide_eq_false (by omega)]))) fun a22 u22 F22 h25_22 => ?_
 have h22_22 := u22.w (u21.w (u20.w h22_19))
 refine wl_pq F22 (ex_pick (q := false) h22_22 h25_22) fun a23 u23 F23 h26_23 => ?_
 change Code.wp _ _ _ _ _
 refine wp_cond_false h26_23 ?_
 refine wp_skip ?_
 change Code.wp _ _ _ _ _
 refine wp_sr ?_
 refine wl_pq F23 (ex_as (v := .nilIface) rfl) fun a24 u24 F24 h7_24 => ?_
 change Code.wp _ _ _ _ _
 refine wp_seq ?_
 refine wp_sr ?_
 have h3_24 := u24.w (u23.w (u22.w (u21.w (u20.w h3_19))))
 refine wl_pq F24 (ex_fb 0 h3_24) fun a25 u25 F25 h27_25 => ?_
 refine wl_pq F25 (ex_le (v := (.int .i64 4)) h27_25 (B3_2.cell 0)) fun a26 u26 F26 h28_26 => ?_
 change Code.wp _ _ _ _ _
 refine wp_block ?_
 refine wp_sr ?_
 refine wl_pq F26 (ex_bin (vy := (.int .i64 0)) (v := (.bool false)) h28_26 rfl (by kernel_rfl)) fun a27 u27 F27 h30_27 => ?_
 refine wl_pq F27 (ex_as h30_27) fun a28 u28 F28 h29_28 => ?_
 change Code.wp _ _ _ _ _
 refine wp_cond_false h29_28 ?_
 refine wp_sr ?_
 refine wl_pq F28 (ex_bin (vy := (.int .i64 1)) (v := (.bool false)) (u28.w (u27.w h28_26)) rfl (by kernel_rfl)) fun a29 u29 F29 h35_29 => ?_
 refine wl_pq F29 (ex_as h35_29) fun a30 u30 F30 h34_30 => ?_
 change Code.wp _ _ _ _ _
 refine wp_cond_false h34_30 ?_
 refine wp_sr ?_
 have h28_30 := u30.w (u29.w (u28.w (u27.w h28_26)))
 refine wl_pq F30 (ex_bin (vy := (.int .i64 2)) (v := (.bool false)) h28_30 rfl (by kernel_rfl)) fun a31 u31 F31 h39_31 => ?_
 refine wl_pq F31 (ex_as h39_31) fun a32 u32 F32 h38_32 => ?_
 change Code.wp _ _ _ _ _
 refine wp_cond_false h38_32 ?_
 refine wp_sr ?_
 refine wl_pq F32 (ex_bin (vy := (.int .i64 3)) (v := (.bool false)) (u32.w (u31.w h28_30)) rfl (by kernel_rfl)) fun a33 u33 F33 h55_33 => ?_
 refine wl_pq F33 (ex_as h55_33) fun a34 u34 F34 h54_34 => ?_
 change Code.wp _ _ _ _ _
 refine wp_cond_false h54_34 ?_
 refine wp_sr ?_
 have h28_34 := u34.w (u33.w (u32.w (u31.w h28_30)))
 refine wl_pq F34 (ex_bin (vy := (.int .i64 4)) (v := (.bool true)) h28_34 rfl (by kernel_rfl)) fun a35 u35 F35 h59_35 => ?_
 refine wl_pq F35 (ex_as h59_35) fun a36 u36 F36 h58_36 => ?_
 change Code.wp _ _ _ _ _
 refine wp_cond_true h58_36 ?_
 refine rg_list ?_
 have h0_36 := u36.w (u35.w (u34.w (u33.w (u32.w (u31.w (u30.w (u29.w (u28.w (u27.w (u26.w (u25.w (u24.w (u23.w (u22.w (u21.w (u20.w (u19.w (u18.w (u17.w (u16.w (u15.w (u14.w (u13.w (u12.w (u11.w (u10.w (u9.w (u8.w (u7.w (u6.w (u5.w (u4.w (u3.w (u2.w (u1.w h0_0)))))))))))))))))))))))))))))))))))
 refine wl_pq F36 (ex_mv h0_36) fun a37 u37 F37 h60_37 => ?_
 have h3_37 := u37.w (u36.w (u35.w (u34.w (u33.w (u32.w (u31.w (u30.w (u29.w (u28.w (u27.w (u26.w (u25.w h3_24))))))))))))
 refine wl_pq F37 (ex_fb 12 h3_37) fun a38 u38 F38 h61_38 => ?_
 refine wl_pq F38 (ex_le (v := (.int .i64 num)) h61_38 (B3_2.cell 12)) fun a39 u39 F39 h62_39 => ?_
 refine wl_pq F39 (ex_conv (vx := (.int .i64 num)) (v := (.int .u64 num)) h62_39 (cv_iu num (by omega) _)) fun a40 u40 F40 h63_40 => ?_
 have h60_40 := u40.w (u39.w (u38.w h60_37))
 refine wl_cl (args := #[(.pointer (some ⟨b, 0, none⟩)), (.int .u64 num)]) (R := fun v w' => Er v (decide (num ≤ d.places)) ∧ PlS w' B b (d.swin num) ∧ Kt B DP w2 w') (ex_cl (fun _ _ => by kernel_rfl) (arg2 h60_40 h63_40)) ((swin_any hO hk H_2.toS).mono fun _ _ h => h) F40.l ?_
 rintro vr w3 ⟨hE, hS, K3⟩
 have KK := ((Kt.refl B DP w0).nw hw0 Q_2).trans K3
 intro a41 u41 h64_41
 have F41 := F40.pt u41
 refine wl_pq F41 (ex_as h64_41) fun a42 u42 F42 h7_42 => ?_
 change Code.wp _ _ _ _ _
 refine wp_sr ?_
 refine wl_pq F42 (ex_mv h7_42) fun a43 u43 F43 h250_43 => ?_
 refine wl_pq F43 (ex_bin (vy := .nilIface) (v := (.bool (decide (num ≤ d.places)))) h250_43 rfl (er_eq hE _)) fun a44 u44 F44 h251_44 => ?_
 refine wl_pq F44 (ex_as h251_44) fun a45 u45 F45 h4_45 => ?_
 refine wl_pq F45 (ex_as (v := (.bool true)) rfl) fun a46 u46 F46 h5_46 => ?_
 change Code.wp _ _ _ _ _
 refine wp_ret ?_
 try simp only [Exit.then, Exit.inBlock]
 exact bodyPost_ret (v := .tuple #[(.bool (decide (num ≤ d.places))), (.bool true)]) ((results_tmp2 rfl _ _ _).trans (by rw [(u46.w h4_45), h5_46])) F46.defers ⟨rfl, hS, KK⟩
theorem step_5 {d : WinD} {k B b num : Nat} {s : SegD} {kv mv : Value} {w0 : World} (hO : d.Ok k) (hk9 : k < 900) (H_0 : PlS w0 B b d) (he : s.e < 160) (hnum : num ≤ 255) {qk : KeyD} (hkey : s.key = some qk) (hv : KV qk) (ks_0 : KeySl w0 kv s.key) (ms_0 : MapSl w0 mv s.map) : Calls Tryd.prog 28 #[pt b, .agg #[(.int .i64 5), (.int .u64 0), (.string s.title), (.string s.uri), (.float .f64 (fb s.e)), (.int .i64 s.li), (.int .i64 s.off), kv, mv, (.slice none 0 0), (.bool s.disc), (.string s.date), (.int .i64 num)]] w0 fun e w' => e = .returned (.tuple #[.bool (decide (d.segs.length ≠ 0)), .bool true]) ∧ PlS w' B b (d.lockL qk) ∧ Kt B DP w0 w' := by
 have hw0 := H_0.hw_
 have hk : k ≤ 900 := Nat.le_of_lt hk9
 refine calls_of_wp Tryd.func28 rfl ?_
 generalize hA : Act.mk _ _ = a0
 have F0 : Fz 252 a0 := by subst hA; exact ⟨by simp [Tryd.ntmps28], rfl⟩
 have h0_0 : a0.tmps.getD 0 undef = (.pointer (some ⟨b, 0, none⟩)) := by subst hA; exact fr_arg rfl
 have h1_0 : a0.tmps.getD 1 undef = (.agg #[(.int .i64 5), (.int .u64 0), (.string s.title), (.string s.uri), (.float .f64 (fb s.e)), (.int .i64 s.li), (.int .i64 s.off), kv, mv, (.slice none 0 0), (.bool s.disc), (.string s.date), (.int .i64 num)]) := by subst hA; exact fr_arg rfl
 have Q_0 := grown_refl w0 none
 refine wp_sr ?_
 obtain ⟨g3, hg3⟩ : ∃ g, w0.heap.size = g := ⟨_, rfl⟩
 obtain ⟨w1, hr1, B3_1, G1, hs1⟩ := al_run (op := Instr.box 44 (.agg #[(.int .i64 5), (.int .u64 0), (.string s.title), (.string s.uri), (.float .f64 (fb s.e)), (.int .i64 s.li), (.int .i64 s.off), kv, mv, (.slice none 0 0), (.bool s.disc), (.string s.date), (.int .i64 num)])) (T := 44) (cs := #[(.int .i64 5), (.int .u64 0), (.string s.title), (.string s.uri), (.float .f64 (fb s.e)), (.int .i64 s.li), (.int .i64 s.off), kv, mv, (.slice none 0 0), (.bool s.disc), (.string s.date), (.int .i64 num)]) hg3 (fun _ => by kernel_rfl)
 have Q_1 := grown_trans Q_0 G1
 have ks_1 := ks_0.gn G1
 have ms_1 := ms_0.gn G1
 have H_1 := H_0.gn G1
 refine wl_pq F0 (ex_bx h1_0 hr1) fun a1 u1 F1 (h3_1 : a1.tmps.getD 3 undef = (.pointer (some ⟨g3, 0, none⟩))) => ?_
 clear Q_0 H_0
 refine wl_pq F1 (ex_as (v := (.bool false)) rfl) fun a2 u2 F2 h4_2 => ?_
 refine wl_pq F2 (ex_as (v := (.bool false)) rfl) fun a3 u3 F3 h5_3 => ?_
 change Code.wp _ _ _ _ _
 refine wp_sr ?_
 refine wl_pq F3 (ex_fb 1 (u3.w (u2.w h3_1))) fun a4 u4 F4 h8_4 => ?_
 refine wl_pq F4 (ex_lda h8_4 (ld_agg (n := 11) (o := 1) (xs := #[(.int .u64 0), (.string s.title), (.string s.uri), (.float .f64 (fb s.e)), (.int .i64 s.li), (.int .i64 s.off), kv, mv, (.slice none 0 0), (.bool s.disc), (.string s.date)]) (fun _ => by kernel_rfl) (fun _ => by kernel_rfl) B3_1 rfl (fun k hk => by rcases k with _ | _ | _ | _ | _ | _ | _ | _ | _ | _ | _ | k <;> first | rfl | omega))) fun a5 u5 F5 (h9_5 : a5.tmps.getD 9 undef = (.agg #[(.int .u64 0), (.string s.title), (.string s.uri), (.float .f64 (fb s.e)), (.int .i64 s.li), (.int .i64 s.off), kv, mv, (.slice none 0 0), (.bool s.disc), (.string s.date)])) => ?_
 refine wl_cl (args := #[(.agg #[(.int .u64 0), (.string s.title), (.string s.uri), (.float .f64 (fb s.e)), (.int .i64 s.li), (.int .i64 s.off), kv, mv, (.slice none 0 0), (.bool s.disc), (.string s.date)])]) (R := fun v w' => ∃ q kp mp, v = pt q ∧ Blk w' q 95 (segC 0 s kp mp) ∧ KeyP w' w1.heap.size kp s.key ∧ MapP w' w1.heap.size mp s.map ∧ w1.heap.size ≤ q ∧ w1.grownBy w' none) (ex_cl (fun _ _ => by kernel_rfl) (arg1 h9_5)) ((segmentTo_any ks_1 ms_1).mono fun _ _ ⟨q, kp, mp, h, r⟩ => ⟨_, h, q, kp, mp, rfl, r⟩) F5.l ?_
 rintro v w2 ⟨q, kq, mq, rfl, Bq_2, kq0, mq0, hq, G2⟩
 have B3_2 := B3_1.gn G2
 have Q_2 := grown_trans Q_1 G2
 have ks_2 := ks_1.gn G2
 have ms_2 := ms_1.gn G2
 have H_2 := H_1.toQ G2 hq
 have hBq : B ≤ q := Nat.le_trans H_1.hw_ hq
 have kq_2 := kq0.lo' H_1.hw_
 have mq_2 := mq0.lo' H_1.hw_
 rw [hkey] at kq_2
 obtain ⟨pk, rfl, Bk_2, hBk, hqk⟩ : ∃ p, kq = some p ∧ Blk w2 p 113 (keyC qk) ∧ B ≤ p ∧ qk.Ok := by
   cases kq_2 with
   | mk h1 h2 h3 => exact ⟨_, rfl, h1, h2, h3⟩
 intro a6 u6 h10_6
 have F6 := F5.pt u6
 clear Q_1 H_1
 refine wl_pq F6 (ex_as h10_6) fun a7 u7 F7 h6_7 => ?_
 change Code.wp _ _ _ _ _
 refine wp_seq ?_
 refine wp_sr ?_
 refine wl_pq F7 (ex_mv h6_7) fun a8 u8 F8 h11_8 => ?_
 refine wl_pq F8 (ex_nil h11_8) fun a9 u9 F9 h12_9 => ?_
 refine wl_pq F9 (ex_fb 3 h12_9) fun a10 u10 F10 h13_10 => ?_
 refine wl_pq F10 (ex_le (v := (.float .f64 (fb s.e))) h13_10 (Bq_2.cell 3)) fun a11 u11 F11 h14_11 => ?_
 refine wl_cl (args := #[(.float .f64 (fb s.e))]) (R := fun v w' => v = (.bool true) ∧ w2 = w') (ex_cl (fun _ _ => by kernel_rfl) (arg1 h14_11)) ((plain_any s.e (by omega) _).mono fun _ _ h => ⟨_, h.1, rfl, h.2⟩) F11.l ?_
 rintro v w' ⟨rfl, rfl⟩
 intro a12 u12 h15_12
 have F12 := F11.pt u12
 refine wl_pq F12 (ex_un (vx := (.bool true)) (v := (.bool false)) h15_12 rfl) fun a13 u13 F13 h16_13 => ?_
 refine wl_pq F13 (ex_mv h16_13) fun a14 u14 F14 h17_14 => ?_
 have h3_14 := u14.w (u13.w (u12.w (u11.w (u10.w (u9.w (u8.w (u7.w (u6.w (u5.w (u4.w (u3.w (u2.w h3_1))))))))))))
 refine wl_gq F14 (yl (e := 17) rfl h17_14) (ex_fb 12 h3_14) fun a15 u15 F15 h18_15 => ?_
 refine wl_gq F15 (yl (e := 17) rfl (u15.w h17_14)) (ex_le (v := (.int .i64 num)) h18_15 (B3_2.cell 12)) fun a16 u16 F16 h19_16 => ?_
 refine wl_gq F16 (yl (e := 17) rfl (u16.w (u15.w h17_14))) (ex_bin (vy := (.int .i64 0)) (v := (.bool false)) h19_16 rfl ((bo_ltn num 0 _).trans (by rw [decide_eq_false (by omega)]))) fun a17 u17 F17 h20_17 => ?_
 have h17_17 := u17.w (u16.w (u15.w h17_14))
 refine wl_pq F17 (ex_pick (q := false) h17_17 h20_17) fun a18 u18 F18 h21_18 => ?_
 refine wl_pq F18 (ex_mv h21_18) fun a19 u19 F19 h22_19 => ?_
 have h3_19 := u19.w (u18.w (u17.w (u16.w (u15.w h3_14))))
 refine wl_gq F19 (yl (e := 22) rfl h22_19) (ex_fb 12 h3_19) fun a20 u20 F20 h23_20 => ?_
 refine wl_gq F20 (yl (e := 22) rfl (u20.w h22_19)) (ex_le (v := (.int .i64 num)) h23_20 (B3_2.cell 12)) fun a21 u21 F21 h24_21 => ?_
 refine wl_gq F21 (yl (e := 22) rfl (u21.w (u20.w h22_19))) (ex_bin (vy := (.int .i64 255)) (v := (.bool false)) h24_21 rfl ((bo_gtn num 255 _).trans (by rw [decide_eq_false (by omega)]))) fun a22 u22 F22 h25_22 => ?_
 have h22_22 := u22.w (u21.w (u20.w h22_19))
 refine wl_pq F22 (ex_pick (q := false) h22_22 h25_22) fun a23 u23 F23 h26_23 => ?_
 change Code.wp _ _ _ _ _
 refine wp_cond_false h26_23 ?_
 refine wp_skip ?_
 change Code.wp _ _ _ _ _
 refine wp_sr ?_
 refine wl_pq F23 (ex_as (v := .nilIface) rfl) fun a24 u24 F24 h7_24 => ?_
 change Code.wp _ _ _ _ _
 refine wp_seq ?_
 refine wp_sr ?_
 have h3_24 := u24.w (u23.w (u22.w (u21.w (u20.w h3_19))))
 refine wl_pq F24 (ex_fb 0 h3_24) fun a25 u25 F25 h27_25 => ?_
 refine wl_pq F25 (ex_le (v := (.int .i64 5)) h27_25 (B3_2.cell 0)) fun a26 u26 F26 h28_26 => ?_
 change Code.wp _ _ _ _ _
 refine wp_block ?_
 refine wp_sr ?_
 refine wl_pq F26 (ex_bin (vy := (.int .i64 0)) (v := (.bool false)) h28_26 rfl (by kernel_rfl)) fun a27 u27 F27 h30_27 => ?_
 refine wl_pq F27 (ex_as h30_27) fun a28 u28 F28 h29_28 => ?_
 change Code.wp _ _ _ _ _
 refine wp_cond_false h29_28 ?_
 refine wp_sr ?_
 refine wl_pq F28 (ex_bin (vy := (.int .i64 1)) (v := (.bool false)) (u28.w (u27.w h28_26)) rfl (by kernel_rfl)) fun a29 u29 F29 h35_29 => ?_
 refine wl_pq F29 (ex_as h35_29) fun a30 u30 F30 h34_30 => ?_
 change Code.wp _ _ _ _ _
 refine wp_cond_false h34_30 ?_
 refine wp_sr ?_
 have h28_30 := u30.w (u29.w (u28.w (u27.w h28_26)))
 refine wl_pq F30 (ex_bin (vy := (.int .i64 2)) (v := (.bool false)) h28_30 rfl (by kernel_rfl)) fun a31 u31 F31 h39_31 => ?_
 refine wl_pq F31 (ex_as h39_31) fun a32 u32 F32 h38_32 => ?_
 change Code.wp _ _ _ _ _
 refine wp_cond_false h38_32 ?_
 refine wp_sr ?_
 refine wl_pq F32 (ex_bin (vy := (.int .i64 3)) (v := (.bool false)) (u32.w (u31.w h28_30)) rfl (by kernel_rfl)) fun a33 u33 F33 h55_33 => ?_
 refine wl_pq F33 (ex_as h55_33) fun a34 u34 F34 h54_34 => ?_
 change Code.wp _ _ _ _ _
 refine wp_cond_false h54_34 ?_
 refine wp_sr ?_
 have h28_34 := u34.w (u33.w (u32.w (u31.w h28_30)))
 refine wl_pq F34 (ex_bin (vy := (.int .i64 4)) (v := (.bool false)) h28_34 rfl (by kernel_rfl)) fun a35 u35 F35 h59_35 => ?_
 refine wl_pq F35 (ex_as h59_35) fun a36 u36 F36 h58_36 => ?_
 change Code.wp _ _ _ _ _
 refine wp_cond_false h58_36 ?_
 refine wp_seq ?_
 refine wp_sr ?_
 refine wl_pq F36 (ex_bin (vy := (.int .i64 5)) (v := (.bool true)) (u36.w (u35.w h28_34)) rfl (by kernel_rfl)) fun a37 u37 F37 h66_37 => ?_
 refine wl_pq F37 (ex_as h66_37) fun a38 u38 F38 h65_38 => ?_
 change Code.wp _ _ _ _ _
 refine wp_cond_true h65_38 ?_
 refine wp_skip ?_
 change Code.wp _ _ _ _ _
 refine wp_cond_true h65_38 ?_
 refine wp_seq ?_
 refine wp_sr ?_
 have h6_38 := u38.w (u37.w (u36.w (u35.w (u34.w (u33.w (u32.w (u31.w (u30.w (u29.w (u28.w (u27.w (u26.w (u25.w (u24.w (u23.w (u22.w (u21.w (u20.w (u19.w (u18.w (u17.w (u16.w (u15.w (u14.w (u13.w (u12.w (u11.w (u10.w (u9.w (u8.w h6_7))))))))))))))))))))))))))))))
 refine wl_pq F38 (ex_mv h6_38) fun a39 u39 F39 h68_39 => ?_
 refine wl_pq F39 (ex_nil h68_39) fun a40 u40 F40 h69_40 => ?_
 refine wl_pq F40 (ex_fb 6 h69_40) fun a41 u41 F41 h70_41 => ?_
 refine wl_pq F41 (ex_le (v := (.pointer (some ⟨pk, 0, none⟩))) h70_41 (Bq_2.cell 6)) fun a42 u42 F42 h71_42 => ?_
 refine wl_pq F42 (ex_bin (vy := (.pointer none)) (v := (.bool false)) h71_42 rfl (by kernel_rfl)) fun a43 u43 F43 h72_43 => ?_
 change Code.wp _ _ _ _ _
 refine wp_cond_false h72_43 ?_
 refine wp_skip ?_
 change Code.wp _ _ _ _ _
 refine wp_sr ?_
 have h3_43 := u43.w (u42.w (u41.w (u40.w (u39.w (u38.w (u37.w (u36.w (u35.w (u34.w (u33.w (u32.w (u31.w (u30.w (u29.w (u28.w (u27.w (u26.w (u25.w h3_24))))))))))))))))))
 refine wl_pq F43 (ex_fb 0 h3_43) fun a44 u44 F44 h73_44 => ?_
 refine wl_pq F44 (ex_le (v := (.int .i64 5)) h73_44 (B3_2.cell 0)) fun a45 u45 F45 h74_45 => ?_
 refine wl_pq F45 (ex_bin (vy := (.int .i64 5)) (v := (.bool true)) h74_45 rfl (by kernel_rfl)) fun a46 u46 F46 h75_46 => ?_
 change Code.wp _ _ _ _ _
 refine wp_cond_true h75_46 ?_
 obtain ⟨w3, hw3⟩ : ∃ w, w = w2.drew := ⟨_, rfl⟩
 have G3 : w2.grownBy w3 none := hw3 ▸ grown_drew _
 have B3_3 := B3_2.gn G3
 have Bk_3 := Bk_2.gn G3
 have Bq_3 := Bq_2.gn G3
 have Q_3 := grown_trans Q_2 G3
 have ks_3 := ks_2.gn G3
 have ms_3 := ms_2.gn G3
 have H_3 := H_2.gn G3
 have kq_3 := kq_2.gn G3
 have mq_3 := mq_2.gn G3
 refine rg_stillt 36 hw3 hmix (by kernel_rfl) ?_
 clear Q_2 H_2 kq_2 mq_2
 have h0_46 := u46.w (u45.w (u44.w (u43.w (u42.w (u41.w (u40.w (u39.w (u38.w (u37.w (u36.w (u35.w (u34.w (u33.w (u32.w (u31.w (u30.w (u29.w (u28.w (u27.w (u26.w (u25.w (u24.w (u23.w (u22.w (u21.w (u20.w (u19.w (u18.w (u17.w (u16.w (u15.w (u14.w (u13.w (u12.w (u11.w (u10.w (u9.w (u8.w (u7.w (u6.w (u5.w (u4.w (u3.w (u2.w (u1.w h0_0)))))))))))))))))))))))))))))))))))))))))))))
 refine st_pq F46 (ex_mv h0_46) fun a47 u47 F47 h76_47 => ?_
 have h6_47 := u47.w (u46.w (u45.w (u44.w (u43.w (u42.w (u41.w (u40.w (u39.w h6_38))))))))
 refine st_pq F47 (ex_mv h6_47) fun a48 u48 F48 h77_48 => ?_
 refine st_pq F48 (ex_nil h77_48) fun a49 u49 F49 h78_49 => ?_
 refine st_pq F49 (ex_fb 6 h78_49) fun a50 u50 F50 h79_50 => ?_
 refine st_pq F50 (ex_le (v := (.pointer (some ⟨pk, 0, none⟩))) h79_50 (Bq_3.cell 6)) fun a51 u51 F51 h80_51 => ?_
 refine st_pq F51 (ex_nil h80_51) fun a52 u52 F52 h81_52 => ?_
 refine st_pq F52 (ex_fb 0 h81_52) fun a53 u53 F53 h82_53 => ?_
 refine st_pq F53 (ex_le (v := (.string qk.me)) h82_53 (Bk_3.cell 0)) fun a54 u54 F54 h83_54 => ?_
 have h6_54 := u54.w (u53.w (u52.w (u51.w (u50.w (u49.w (u48.w h6_47))))))
 refine st_pq F54 (ex_mv h6_54) fun a55 u55 F55 h84_55 => ?_
 refine st_pq F55 (ex_nil h84_55) fun a56 u56 F56 h85_56 => ?_
 refine st_pq F56 (ex_fb 6 h85_56) fun a57 u57 F57 h86_57 => ?_
 refine st_pq F57 (ex_le (v := (.pointer (some ⟨pk, 0, none⟩))) h86_57 (Bq_3.cell 6)) fun a58 u58 F58 h87_58 => ?_
 refine st_pq F58 (ex_nil h87_58) fun a59 u59 F59 h88_59 => ?_
 refine st_pq F59 (ex_fb 1 h88_59) fun a60 u60 F60 h89_60 => ?_
 refine st_pq F60 (ex_le (v := (.string qk.uri)) h89_60 (Bk_3.cell 1)) fun a61 u61 F61 h90_61 => ?_
 have h6_61 := u61.w (u60.w (u59.w (u58.w (u57.w (u56.w (u55.w h6_54))))))
 refine st_pq F61 (ex_mv h6_61) fun a62 u62 F62 h91_62 => ?_
 refine st_pq F62 (ex_nil h91_62) fun a63 u63 F63 h92_63 => ?_
 refine st_pq F63 (ex_fb 6 h92_63) fun a64 u64 F64 h93_64 => ?_
 refine st_pq F64 (ex_le (v := (.pointer (some ⟨pk, 0, none⟩))) h93_64 (Bq_3.cell 6)) fun a65 u65 F65 h94_65 => ?_
 refine st_pq F65 (ex_nil h94_65) fun a66 u66 F66 h95_66 => ?_
 refine st_pq F66 (ex_fb 2 h95_66) fun a67 u67 F67 h96_67 => ?_
 refine st_pq F67 (ex_le (v := (.string qk.iv)) h96_67 (Bk_3.cell 2)) fun a68 u68 F68 h97_68 => ?_
 have h6_68 := u68.w (u67.w (u66.w (u65.w (u64.w (u63.w (u62.w h6_61))))))
 refine st_pq F68 (ex_mv h6_68) fun a69 u69 F69 h98_69 => ?_
 refine st_pq F69 (ex_nil h98_69) fun a70 u70 F70 h99_70 => ?_
 refine st_pq F70 (ex_fb 6 h99_70) fun a71 u71 F71 h100_71 => ?_
 refine st_pq F71 (ex_le (v := (.pointer (some ⟨pk, 0, none⟩))) h100_71 (Bq_3.cell 6)) fun a72 u72 F72 h101_72 => ?_
 refine st_pq F72 (ex_nil h101_72) fun a73 u73 F73 h102_73 => ?_
 refine st_pq F73 (ex_fb 3 h102_73) fun a74 u74 F74 h103_74 => ?_
 refine st_pq F74 (ex_le (v := (.string qk.fo)) h103_74 (Bk_3.cell 3)) fun a75 u75 F75 h104_75 => ?_
 have h6_75 := u75.w (u74.w (u73.w (u72.w (u71.w (u70.w (u69.w h6_68))))))
 refine st_pq F75 (ex_mv h6_75) fun a76 u76 F76 h105_76 => ?_
 refine st_pq F76 (ex_nil h105_76) fun a77 u77 F77 h106_77 => ?_
 refine st_pq F77 (ex_fb 6 h106_77) fun a78 u78 F78 h107_78 => ?_
 refine st_pq F78 (ex_le (v := (.pointer (some ⟨pk, 0, none⟩))) h107_78 (Bq_3.cell 6)) fun a79 u79 F79 h108_79 => ?_
 refine st_pq F79 (ex_nil h108_79) fun a80 u80 F80 h109_80 => ?_
 refine st_pq F80 (ex_fb 4 h109_80) fun a81 u81 F81 h110_81 => ?_
 refine st_pq F81 (ex_le (v := (.string qk.ve)) h110_81 (Bk_3.cell 4)) fun a82 u82 F82 h111_82 => ?_
 have h76_82 := u82.w (u81.w (u80.w (u79.w (u78.w (u77.w (u76.w (u75.w (u74.w (u73.w (u72.w (u71.w (u70.w (u69.w (u68.w (u67.w (u66.w (u65.w (u64.w (u63.w (u62.w (u61.w (u60.w (u59.w (u58.w (u57.w (u56.w (u55.w (u54.w (u53.w (u52.w (u51.w (u50.w (u49.w (u48.w h76_47))))))))))))))))))))))))))))))))))
 have h83_82 := u82.w (u81.w (u80.w (u79.w (u78.w (u77.w (u76.w (u75.w (u74.w (u73.w (u72.w (u71.w (u70.w (u69.w (u68.w (u67.w (u66.w (u65.w (u64.w (u63.w (u62.w (u61.w (u60.w (u59.w (u58.w (u57.w (u56.w (u55.w h83_54)))))))))))))))))))))))))))
 have h90_82 := u82.w (u81.w (u80.w (u79.w (u78.w (u77.w (u76.w (u75.w (u74.w (u73.w (u72.w (u71.w (u70.w (u69.w (u68.w (u67.w (u66.w (u65.w (u64.w (u63.w (u62.w h90_61))))))))))))))))))))
 have h97_82 := u82.w (u81.w (u80.w (u79.w (u78.w (u77.w (u76.w (u75.w (u74.w (u73.w (u72.w (u71.w (u70.w (u69.w h97_68)))))))))))))
 have h104_82 := u82.w (u81.w (u80.w (u79.w (u78.w (u77.w (u76.w h104_75))))))
 refine wl_cl (args := #[(.pointer (some ⟨b, 0, none⟩)), (.string qk.me), (.string qk.uri), (.string qk.iv), (.string qk.fo), (.string qk.ve)]) (R := fun v w' => Er v (decide (d.segs.length ≠ 0)) ∧ PlS w' B b (d.lockL qk) ∧ Kt B DP w3 w') (ex_cl (fun _ _ => by kernel_rfl) (arg6 h76_82 h83_82 h90_82 h97_82 h104_82 h111_82)) ((skey hO hk H_3.toS hqk hv).mono fun _ _ h => h) F82.l ?_
 rintro vr w4 ⟨hE, hS, K4⟩
 have KK := ((Kt.refl B DP w0).nw hw0 Q_3).trans K4
 intro a83 u83 h112_83
 have F83 := F82.pt u83
 refine wl_pq F83 (ex_as h112_83) fun a84 u84 F84 h7_84 => ?_
 change Code.wp _ _ _ _ _
 refine wp_sr ?_
 refine wl_pq F84 (ex_mv h7_84) fun a85 u85 F85 h250_85 => ?_
 refine wl_pq F85 (ex_bin (vy := .nilIface) (v := (.bool (decide (d.segs.length ≠ 0)))) h250_85 rfl (er_eq hE _)) fun a86 u86 F86 h251_86 => ?_
 refine wl_pq F86 (ex_as h251_86) fun a87 u87 F87 h4_87 => ?_
 refine wl_pq F87 (ex_as (v := (.bool true)) rfl) fun a88 u88 F88 h5_88 => ?_
 change Code.wp _ _ _ _ _
 refine wp_ret ?_
 try simp only [Exit.then, Exit.inBlock]
 exact bodyPost_ret (v := .tuple #[(.bool (decide (d.segs.length ≠ 0))), (.bool true)]) ((results_tmp2 rfl _ _ _).trans (by rw [(u88.w h4_87), h5_88])) F88.defers ⟨rfl, hS, KK⟩
theorem step_11 {d : WinD} {k B b num : Nat} {s : SegD} {kv mv : Value} {w0 : World} (hO : d.Ok k) (hk9 : k < 900) (H_0 : PlS w0 B b d) (he : s.e < 160) (hnum : num ≤ 255) {qk : KeyD} (hkey : s.key = some qk) (hv : KV qk) (ks_0 : KeySl w0 kv s.key) (ms_0 : MapSl w0 mv s.map) : Calls Tryd.prog 28 #[pt b, .agg #[(.int .i64 11), (.int .u64 0), (.string s.title), (.string s.uri), (.float .f64 (fb s.e)), (.int .i64 s.li), (.int .i64 s.off), kv, mv, (.slice none 0 0), (.bool s.disc), (.string s.date), (.int .i64 num)]] w0 fun e w' => e = .returned (.tuple #[.bool true, .bool true]) ∧ PlS w' B b (d.lockA qk) ∧ Kt B DP w0 w' := by
 have hw0 := H_0.hw_
 have hk : k ≤ 900 := Nat.le_of_lt hk9
 refine calls_of_wp Tryd.func28 rfl ?_
 generalize hA : Act.mk _ _ = a0
 have F0 : Fz 252 a0 := by subst hA; exact ⟨by simp [Tryd.ntmps28], rfl⟩
 have h0_0 : a0.tmps.getD 0 undef = (.pointer (some ⟨b, 0, none⟩)) := by subst hA; exact fr_arg rfl
 have h1_0 : a0.tmps.getD 1 undef = (.agg #[(.int .i64 11), (.int .u64 0), (.string s.title), (.string s.uri), (.float .f64 (fb s.e)), (.int .i64 s.li), (.int .i64 s.off), kv, mv, (.slice none 0 0), (.bool s.disc), (.string s.date), (.int .i64 num)]) := by subst hA; exact fr_arg rfl
 have Q_0 := grown_refl w0 none
 refine wp_sr ?_
 obtain ⟨g3, hg3⟩ : ∃ g, w0.heap.size = g := ⟨_, rfl⟩
 obtain ⟨w1, hr1, B3_1, G1, hs1⟩ := al_run (op := Instr.box 44 (.agg #[(.int .i64 11), (.int .u64 0), (.string s.title), (.string s.uri), (.float .f64 (fb s.e)), (.int .i64 s.li), (.int .i64 s.off), kv, mv, (.slice none 0 0), (.bool s.disc), (.string s.date), (.int .i64 num)])) (T := 44) (cs := #[(.int .i64 11), (.int .u64 0), (.string s.title), (.string s.uri), (.float .f64 (fb s.e)), (.int .i64 s.li), (.int .i64 s.off), kv, mv, (.slice none 0 0), (.bool s.disc), (.string s.date), (.int .i64 num)]) hg3 (fun _ => by kernel_rfl)
 have Q_1 := grown_trans Q_0 G1
 have ks_1 := ks_0.gn G1
 have ms_1 := ms_0.gn G1
 have H_1 := H_0.gn G1
 refine wl_pq F0 (ex_bx h1_0 hr1) fun a1 u1 F1 (h3_1 : a1.tmps.getD 3 undef = (.pointer (some ⟨g3, 0, none⟩))) => ?_
 clear Q_0 H_0
 refine wl_pq F1 (ex_as (v := (.bool false)) rfl) fun a2 u2 F2 h4_2 => ?_
 refine wl_pq F2 (ex_as (v := (.bool false)) rfl) fun a3 u3 F3 h5_3 => ?_
 change Code.wp _ _ _ _ _
 refine wp_sr ?_
 refine wl_pq F3 (ex_fb 1 (u3.w (u2.w h3_1))) fun a4 u4 F4 h8_4 => ?_
 refine wl_pq F4 (ex_lda h8_4 (ld_agg (n := 11) (o := 1) (xs := #[(.int .u64 0), (.string s.title), (.string s.uri), (.float .f64 (fb s.e)), (.int .i64 s.li), (.int .i64 s.off), kv, mv, (.slice none 0 0), (.bool s.disc), (.string s.date)]) (fun _ => by kernel_rfl) (fun _ => by kernel_rfl) B3_1 rfl (fun k hk => by rcases k with _ | _ | _ | _ | _ | _ | _ | _ | _ | _ | _ | k <;> first | rfl | omega))) fun a5 u5 F5 (h9_5 : a5.tmps.getD 9 undef = (.agg #[(.int .u64 0), (.string s.title), (.string s.uri), (.float .f64 (fb s.e)), (.int .i64 s.li), (.int .i64 s.off), kv, mv, (.slice none 0 0), (.bool s.disc), (.string s.date)])) => ?_
 refine wl_cl (args := #[(.agg #[(.int .u64 0), (.string s.title), (.string s.uri), (.float .f64 (fb s.e)), (.int .i64 s.li), (.int .i64 s.off), kv, mv, (.slice none 0 0), (.bool s.disc), (.string s.date)])]) (R := fun v w' => ∃ q kp mp, v = pt q ∧ Blk w' q 95 (segC 0 s kp mp) ∧ KeyP w' w1.heap.size kp s.key ∧ MapP w' w1.heap.size mp s.map ∧ w1.heap.size ≤ q ∧ w1.grownBy w' none) (ex_cl (fun _ _ => by kernel_rfl) (arg1 h9_5)) ((segmentTo_any ks_1 ms_1).mono fun _ _ ⟨q, kp, mp, h, r⟩ => ⟨_, h, q, kp, mp, rfl, r⟩) F5.l ?_
 rintro v w2 ⟨q, kq, mq, rfl, Bq_2, kq0, mq0, hq, G2⟩
 have B3_2 := B3_1.gn G2
 have Q_2 := grown_trans Q_1 G2
 have ks_2 := ks_1.gn G2
 have ms_2 := ms_1.gn G2
 have H_2 := H_1.toQ G2 hq
 have hBq : B ≤ q := Nat.le_trans H_1.hw_ hq
 have kq_2 := kq0.lo' H_1.hw_
 have mq_2 := mq0.lo' H_1.hw_
 rw [hkey] at kq_2
 obtain ⟨pk, rfl, Bk_2, hBk, hqk⟩ : ∃ p, kq = some p ∧ Blk w2 p 113 (keyC qk) ∧ B ≤ p ∧ qk.Ok := by
   cases kq_2 with
   | mk h1 h2 h3 => exact ⟨_, rfl, h1, h2, h3⟩
 intro a6 u6 h10_6
 have F6 := F5.pt u6
 clear Q_1 H_1
 refine wl_pq F6 (ex_as h10_6) fun a7 u7 F7 h6_7 => ?_
 change Code.wp _ _ _ _ _
 refine wp_seq ?_
 refine wp_sr ?_
 refine wl_pq F7 (ex_mv h6_7) fun a8 u8 F8 h11_8 => ?_
 refine wl_pq F8 (ex_nil h11_8) fun a9 u9 F9 h12_9 => ?_
 refine wl_pq F9 (ex_fb 3 h12_9) fun a10 u10 F10 h13_10 => ?_
 refine wl_pq F10 (ex_le (v := (.float .f64 (fb s.e))) h13_10 (Bq_2.cell 3)) fun a11 u11 F11 h14_11 => ?_
 refine wl_cl (args := #[(.float .f64 (fb s.e))]) (R := fun v w' => v = (.bool true) ∧ w2 = w') (ex_cl (fun _ _ => by kernel_rfl) (arg1 h14_11)) ((plain_any s.e (by omega) _).mono fun _ _ h => ⟨_, h.1, rfl, h.2⟩) F11.l ?_
 rintro v w' ⟨rfl, rfl⟩
 intro a12 u12 h15_12
 have F12 := F11.pt u12
 refine wl_pq F12 (ex_un (vx := (.bool true)) (v := (.bool false)) h15_12 rfl) fun a13 u13 F13 h16_13 => ?_
 refine wl_pq F13 (ex_mv h16_13) fun a14 u14 F14 h17_14 => ?_
 have h3_14 := u14.w (u13.w (u12.w (u11.w (u10.w (u9.w (u8.w (u7.w (u6.w (u5.w (u4.w (u3.w (u2.w h3_1))))))))))))
 refine wl_gq F14 (yl (e := 17) rfl h17_14) (ex_fb 12 h3_14) fun a15 u15 F15 h18_15 => ?_
 refine wl_gq F15 (yl (e := 17) rfl (u15.w h17_14)) (ex_le (v := (.int .i64 num)) h18_15 (B3_2.cell 12)) fun a16 u16 F16 h19_16 => ?_
 refine wl_gq F16 (yl (e := 17) rfl (u16.w (u15.w h17_14))) (ex_bin (vy := (.int .i64 0)) (v := (.bool false)) h19_16 rfl ((bo_ltn num 0 _).trans (by rw [decide_eq_false (by omega)]))) fun a17 u17 F17 h20_17 => ?_
 have h17_17 := u17.w (u16.w (u15.w h17_14))
 refine wl_pq F17 (ex_pick (q := false) h17_17 h20_17) fun a18 u18 F18 h21_18 => ?_
 refine wl_pq F18 (ex_mv h21_18) fun a19 u19 F19 h22_19 => ?_
 have h3_19 := u19.w (u18.w (u17.w (u16.w (u15.w h3_14))))
 refine wl_gq F19 (yl (e := 22) rfl h22_19) (ex_fb 12 h3_19) fun a20 u20 F20 h23_20 => ?_
 refine wl_gq F20 (yl (e := 22) rfl (u20.w h22_19)) (ex_le (v := (.int .i64 num)) h23_20 (B3_2.cell 12)) fun a21 u21 F21 h24_21 => ?_
 refine wl_gq F21 (yl (e := 22) rfl (u21.w (u20.w h22_19))) (ex_bin (vy := (.int .i64 255)) (v := (.bool false)) h24_21 rfl ((bo_gtn num 255 _).trans (by rw [decide_eq_false (by omega)]))) fun a22 u22 F22 h25_22 => ?_
 have h22_22 := u22.w (u21.w (u20.w h22_19))
 refine wl_pq F22 (ex_pick (q := false) h22_22 h25_22) fun a23 u23 F23 h26_23 => ?_
 change Code.wp _ _ _ _ _
 refine wp_cond_false h26_23 ?_
 refine wp_skip ?_
 change Code.wp _ _ _ _ _
 refine wp_sr ?_
 refine wl_pq F23 (ex_as (v := .nilIface) rfl) fun a24 u24 F24 h7_24 => ?_
 change Code.wp _ _ _ _ _
 refine wp_seq ?_
 refine wp_sr ?_
 have h3_24 := u24.w (u23.w (u22.w (u21.w (u20.w h3_19))))
 refine wl_pq F24 (ex_fb 0 h3_24) fun a25 u25 F25 h27_25 => ?_
 refine wl_pq F25 (ex_le (v := (.int .i64 11)) h27_25 (B3_2.cell 0)) fun a26 u26 F26 h28_26 => ?_
 change Code.wp _ _ _ _ _
 refine wp_block ?_
 refine wp_sr ?_
 refine wl_pq F26 (ex_bin (vy := (.int .i64 0)) (v := (.bool false)) h28_26 rfl (by kernel_rfl)) fun a27 u27 F27 h30_27 => ?_
 refine wl_pq F27 (ex_as h30_27) fun a28 u28 F28 h29_28 => ?_
 change Code.wp _ _ _ _ _
 refine wp_cond_false h29_28 ?_
 refine wp_sr ?_
 refine wl_pq F28 (ex_bin (vy := (.int .i64 1)) (v := (.bool false)) (u28.w (u27.w h28_26)) rfl (by kernel_rfl)) fun a29 u29 F29 h35_29 => ?_
 refine wl_pq F29 (ex_as h35_29) fun a30 u30 F30 h34_30 => ?_
 change Code.wp _ _ _ _ _
 refine wp_cond_false h34_30 ?_
 refine wp_sr ?_
 have h28_30 := u30.w (u29.w (u28.w (u27.w h28_26)))
 refine wl_pq F30 (ex_bin (vy := (.int .i64 2)) (v := (.bool false)) h28_30 rfl (by kernel_rfl)) fun a31 u31 F31 h39_31 => ?_
 refine wl_pq F31 (ex_as h39_31) fun a32 u32 F32 h38_32 => ?_
 change Code.wp _ _ _ _ _
 refine wp_cond_false h38_32 ?_
 refine wp_sr ?_
 refine wl_pq F32 (ex_bin (vy := (.int .i64 3)) (v := (.bool false)) (u32.w (u31.w h28_30)) rfl (by kernel_rfl)) fun a33 u33 F33 h55_33 => ?_
 refine wl_pq F33 (ex_as h55_33) fun a34 u34 F34 h54_34 => ?_
 change Code.wp _ _ _ _ _
 refine wp_cond_false h54_34 ?_
 refine wp_sr ?_
 have h28_34 := u34.w (u33.w (u32.w (u31.w h28_30)))
 refine wl_pq F34 (ex_bin (vy := (.int .i64 4)) (v := (.bool false)) h28_34 rfl (by kernel_rfl)) fun a35 u35 F35 h59_35 => ?_
 refine wl_pq F35 (ex_as h59_35) fun a36 u36 F36 h58_36 => ?_
 change Code.wp _ _ _ _ _
 refine wp_cond_false h58_36 ?_
 refine wp_seq ?_
 refine wp_sr ?_
 refine wl_pq F36 (ex_bin (vy := (.int .i64 5)) (v := (.bool false)) (u36.w (u35.w h28_34)) rfl (by kernel_rfl)) fun a37 u37 F37 h66_37 => ?_
 refine wl_pq F37 (ex_as h66_37) fun a38 u38 F38 h65_38 => ?_
 change Code.wp _ _ _ _ _
 refine wp_cond_false h65_38 ?_
 refine rg_list ?_
 have h28_38 := u38.w (u37.w (u36.w (u35.w h28_34)))
 refine wl_pq F38 (ex_bin (vy := (.int .i64 11)) (v := (.bool true)) h28_38 rfl (by kernel_rfl)) fun a39 u39 F39 h67_39 => ?_
 refine wl_pq F39 (ex_as h67_39) fun a40 u40 F40 h65_40 => ?_
 change Code.wp _ _ _ _ _
 refine wp_cond_true h65_40 ?_
 refine wp_seq ?_
 refine wp_sr ?_
 have h6_40 := u40.w (u39.w (u38.w (u37.w (u36.w (u35.w (u34.w (u33.w (u32.w (u31.w (u30.w (u29.w (u28.w (u27.w (u26.w (u25.w (u24.w (u23.w (u22.w (u21.w (u20.w (u19.w (u18.w (u17.w (u16.w (u15.w (u14.w (u13.w (u12.w (u11.w (u10.w (u9.w (u8.w h6_7))))))))))))))))))))))))))))))))
 refine wl_pq F40 (ex_mv h6_40) fun a41 u41 F41 h68_41 => ?_
 refine wl_pq F41 (ex_nil h68_41) fun a42 u42 F42 h69_42 => ?_
 refine wl_pq F42 (ex_fb 6 h69_42) fun a43 u43 F43 h70_43 => ?_
 refine wl_pq F43 (ex_le (v := (.pointer (some ⟨pk, 0, none⟩))) h70_43 (Bq_2.cell 6)) fun a44 u44 F44 h71_44 => ?_
 refine wl_pq F44 (ex_bin (vy := (.pointer none)) (v := (.bool false)) h71_44 rfl (by kernel_rfl)) fun a45 u45 F45 h72_45 => ?_
 change Code.wp _ _ _ _ _
 refine wp_cond_false h72_45 ?_
 refine wp_skip ?_
 change Code.wp _ _ _ _ _
 refine wp_sr ?_
 have h3_45 := u45.w (u44.w (u43.w (u42.w (u41.w (u40.w (u39.w (u38.w (u37.w (u36.w (u35.w (u34.w (u33.w (u32.w (u31.w (u30.w (u29.w (u28.w (u27.w (u26.w (u25.w h3_24))))))))))))))))))))
 refine wl_pq F45 (ex_fb 0 h3_45) fun a46 u46 F46 h73_46 => ?_
 refine wl_pq F46 (ex_le (v := (.int .i64 11)) h73_46 (B3_2.cell 0)) fun a47 u47 F47 h74_47 => ?_
 refine wl_pq F47 (ex_bin (vy := (.int .i64 5)) (v := (.bool false)) h74_47 rfl (by kernel_rfl)) fun a48 u48 F48 h75_48 => ?_
 change Code.wp _ _ _ _ _
 refine wp_cond_false h75_48 ?_
 obtain ⟨w3, hw3⟩ : ∃ w, w = w2.drew := ⟨_, rfl⟩
 have G3 : w2.grownBy w3 none := hw3 ▸ grown_drew _
 have B3_3 := B3_2.gn G3
 have Bk_3 := Bk_2.gn G3
 have Bq_3 := Bq_2.gn G3
 have Q_3 := grown_trans Q_2 G3
 have ks_3 := ks_2.gn G3
 have ms_3 := ms_2.gn G3
 have H_3 := H_2.gn G3
 have kq_3 := kq_2.gn G3
 have mq_3 := mq_2.gn G3
 refine rg_stillt 36 hw3 hmix (by kernel_rfl) ?_
 clear Q_2 H_2 kq_2 mq_2
 have h0_48 := u48.w (u47.w (u46.w (u45.w (u44.w (u43.w (u42.w (u41.w (u40.w (u39.w (u38.w (u37.w (u36.w (u35.w (u34.w (u33.w (u32.w (u31.w (u30.w (u29.w (u28.w (u27.w (u26.w (u25.w (u24.w (u23.w (u22.w (u21.w (u20.w (u19.w (u18.w (u17.w (u16.w (u15.w (u14.w (u13.w (u12.w (u11.w (u10.w (u9.w (u8.w (u7.w (u6.w (u5.w (u4.w (u3.w (u2.w (u1.w h0_0)))))))))))))))))))))))))))))))))))))))))))))))
 refine st_pq F48 (ex_mv h0_48) fun a49 u49 F49 h113_49 => ?_
 have h6_49 := u49.w (u48.w (u47.w (u46.w (u45.w (u44.w (u43.w (u42.w (u41.w h6_40))))))))
 refine st_pq F49 (ex_mv h6_49) fun a50 u50 F50 h114_50 => ?_
 refine st_pq F50 (ex_nil h114_50) fun a51 u51 F51 h115_51 => ?_
 refine st_pq F51 (ex_fb 6 h115_51) fun a52 u52 F52 h116_52 => ?_
 refine st_pq F52 (ex_le (v := (.pointer (some ⟨pk, 0, none⟩))) h116_52 (Bq_3.cell 6)) fun a53 u53 F53 h117_53 => ?_
 refine st_pq F53 (ex_nil h117_53) fun a54 u54 F54 h118_54 => ?_
 refine st_pq F54 (ex_fb 0 h118_54) fun a55 u55 F55 h119_55 => ?_
 refine st_pq F55 (ex_le (v := (.string qk.me)) h119_55 (Bk_3.cell 0)) fun a56 u56 F56 h120_56 => ?_
 have h6_56 := u56.w (u55.w (u54.w (u53.w (u52.w (u51.w (u50.w h6_49))))))
 refine st_pq F56 (ex_mv h6_56) fun a57 u57 F57 h121_57 => ?_
 refine st_pq F57 (ex_nil h121_57) fun a58 u58 F58 h122_58 => ?_
 refine st_pq F58 (ex_fb 6 h122_58) fun a59 u59 F59 h123_59 => ?_
 refine st_pq F59 (ex_le (v := (.pointer (some ⟨pk, 0, none⟩))) h123_59 (Bq_3.cell 6)) fun a60 u60 F60 h124_60 => ?_
 refine st_pq F60 (ex_nil h124_60) fun a61 u61 F61 h125_61 => ?_
 refine st_pq F61 (ex_fb 1 h125_61) fun a62 u62 F62 h126_62 => ?_
 refine st_pq F62 (ex_le (v := (.string qk.uri)) h126_62 (Bk_3.cell 1)) fun a63 u63 F63 h127_63 => ?_
 have h6_63 := u63.w (u62.w (u61.w (u60.w (u59.w (u58.w (u57.w h6_56))))))
 refine st_pq F63 (ex_mv h6_63) fun a64 u64 F64 h128_64 => ?_
 refine st_pq F64 (ex_nil h128_64) fun a65 u65 F65 h129_65 => ?_
 refine st_pq F65 (ex_fb 6 h129_65) fun a66 u66 F66 h130_66 => ?_
 refine st_pq F66 (ex_le (v := (.pointer (some ⟨pk, 0, none⟩))) h130_66 (Bq_3.cell 6)) fun a67 u67 F67 h131_67 => ?_
 refine st_pq F67 (ex_nil h131_67) fun a68 u68 F68 h132_68 => ?_
 refine st_pq F68 (ex_fb 2 h132_68) fun a69 u69 F69 h133_69 => ?_
 refine st_pq F69 (ex_le (v := (.string qk.iv)) h133_69 (Bk_3.cell 2)) fun a70 u70 F70 h134_70 => ?_
 have h6_70 := u70.w (u69.w (u68.w (u67.w (u66.w (u65.w (u64.w h6_63))))))
 refine st_pq F70 (ex_mv h6_70) fun a71 u71 F71 h135_71 => ?_
 refine st_pq F71 (ex_nil h135_71) fun a72 u72 F72 h136_72 => ?_
 refine st_pq F72 (ex_fb 6 h136_72) fun a73 u73 F73 h137_73 => ?_
 refine st_pq F73 (ex_le (v := (.pointer (some ⟨pk, 0, none⟩))) h137_73 (Bq_3.cell 6)) fun a74 u74 F74 h138_74 => ?_
 refine st_pq F74 (ex_nil h138_74) fun a75 u75 F75 h139_75 => ?_
 refine st_pq F75 (ex_fb 3 h139_75) fun a76 u76 F76 h140_76 => ?_
 refine st_pq F76 (ex_le (v := (.string qk.fo)) h140_76 (Bk_3.cell 3)) fun a77 u77 F77 h141_77 => ?_
 have h6_77 := u77.w (u76.w (u75.w (u74.w (u73.w (u72.w (u71.w h6_70))))))
 refine st_pq F77 (ex_mv h6_77) fun a78 u78 F78 h142_78 => ?_
 refine st_pq F78 (ex_nil h142_78) fun a79 u79 F79 h143_79 => ?_
 refine st_pq F79 (ex_fb 6 h143_79) fun a80 u80 F80 h144_80 => ?_
 refine st_pq F80 (ex_le (v := (.pointer (some ⟨pk, 0, none⟩))) h144_80 (Bq_3.cell 6)) fun a81 u81 F81 h145_81 => ?_
 refine st_pq F81 (ex_nil h145_81) fun a82 u82 F82 h146_82 => ?_
 refine st_pq F82 (ex_fb 4 h146_82) fun a83 u83 F83 h147_83 => ?_
 refine st_pq F83 (ex_le (v := (.string qk.ve)) h147_83 (Bk_3.cell 4)) fun a84 u84 F84 h148_84 => ?_
 have h113_84 := u84.w (u83.w (u82.w (u81.w (u80.w (u79.w (u78.w (u77.w (u76.w (u75.w (u74.w (u73.w (u72.w (u71.w (u70.w (u69.w (u68.w (u67.w (u66.w (u65.w (u64.w (u63.w (u62.w (u61.w (u60.w (u59.w (u58.w (u57.w (u56.w (u55.w (u54.w (u53.w (u52.w (u51.w (u50.w h113_49))))))))))))))))))))))))))))))))))
 have h120_84 := u84.w (u83.w (u82.w (u81.w (u80.w (u79.w (u78.w (u77.w (u76.w (u75.w (u74.w (u73.w (u72.w (u71.w (u70.w (u69.w (u68.w (u67.w (u66.w (u65.w (u64.w (u63.w (u62.w (u61.w (u60.w (u59.w (u58.w (u57.w h120_56)))))))))))))))))))))))))))
 have h127_84 := u84.w (u83.w (u82.w (u81.w (u80.w (u79.w (u78.w (u77.w (u76.w (u75.w (u74.w (u73.w (u72.w (u71.w (u70.w (u69.w (u68.w (u67.w (u66.w (u65.w (u64.w h127_63))))))))))))))))))))
 have h134_84 := u84.w (u83.w (u82.w (u81.w (u80.w (u79.w (u78.w (u77.w (u76.w (u75.w (u74.w (u73.w (u72.w (u71.w h134_70)))))))))))))
 have h141_84 := u84.w (u83.w (u82.w (u81.w (u80.w (u79.w (u78.w h141_77))))))
 refine wl_cl (args := #[(.pointer (some ⟨b, 0, none⟩)), (.string qk.me), (.string qk.uri), (.string qk.iv), (.string qk.fo), (.string qk.ve)]) (R := fun v w' => Er v true ∧ PlS w' B b (d.lockA qk) ∧ Kt B DP w3 w') (ex_cl (fun _ _ => by kernel_rfl) (arg6 h113_84 h120_84 h127_84 h134_84 h141_84 h148_84)) ((dkey hO hk H_3.toS hqk hv).mono fun _ _ h => h) F84.l ?_
 rintro vr w4 ⟨hE, hS, K4⟩
 have KK := ((Kt.refl B DP w0).nw hw0 Q_3).trans K4
 intro a85 u85 h149_85
 have F85 := F84.pt u85
 refine wl_pq F85 (ex_as h149_85) fun a86 u86 F86 h7_86 => ?_
 change Code.wp _ _ _ _ _
 refine wp_sr ?_
 refine wl_pq F86 (ex_mv h7_86) fun a87 u87 F87 h250_87 => ?_
 refine wl_pq F87 (ex_bin (vy := .nilIface) (v := (.bool true)) h250_87 rfl (er_eq hE _)) fun a88 u88 F88 h251_88 => ?_
 refine wl_pq F88 (ex_as h251_88) fun a89 u89 F89 h4_89 => ?_
 refine wl_pq F89 (ex_as (v := (.bool true)) rfl) fun a90 u90 F90 h5_90 => ?_
 change Code.wp _ _ _ _ _
 refine wp_ret ?_
 try simp only [Exit.then, Exit.inBlock]
 exact bodyPost_ret (v := .tuple #[(.bool true), (.bool true)]) ((results_tmp2 rfl _ _ _).trans (by rw [(u90.w h4_89), h5_90])) F90.defers ⟨rfl, hS, KK⟩
theorem step_6 {d : WinD} {k B b num : Nat} {s : SegD} {kv mv : Value} {w0 : World} (hO : d.Ok k) (hk9 : k < 900) (H_0 : PlS w0 B b d) (he : s.e < 160) (hnum : num ≤ 255) {qk : MapD} (hkey : s.map = some qk) (ks_0 : KeySl w0 kv s.key) (ms_0 : MapSl w0 mv s.map) : Calls Tryd.prog 28 #[pt b, .agg #[(.int .i64 6), (.int .u64 0), (.string s.title), (.string s.uri), (.float .f64 (fb s.e)), (.int .i64 s.li), (.int .i64 s.off), kv, mv, (.slice none 0 0), (.bool s.disc), (.string s.date), (.int .i64 num)]] w0 fun e w' => e = .returned (.tuple #[.bool (decide (d.segs.length ≠ 0)), .bool true]) ∧ PlS w' B b (d.leadL qk) ∧ Kt B DP w0 w' := by
 have hw0 := H_0.hw_
 have hk : k ≤ 900 := Nat.le_of_lt hk9
 refine calls_of_wp Tryd.func28 rfl ?_
 generalize hA : Act.mk _ _ = a0
 have F0 : Fz 252 a0 := by subst hA; exact ⟨by simp [Tryd.ntmps28], rfl⟩
 have h0_0 : a0.tmps.getD 0 undef = (.pointer (some ⟨b, 0, none⟩)) := by subst hA; exact fr_arg rfl
 have h1_0 : a0.tmps.getD 1 undef = (.agg #[(.int .i64 6), (.int .u64 0), (.string s.title), (.string s.uri), (.float .f64 (fb s.e)), (.int .i64 s.li), (.int .i64 s.off), kv, mv, (.slice none 0 0), (.bool s.disc), (.string s.date), (.int .i64 num)]) := by subst hA; exact fr_arg rfl
 have Q_0 := grown_refl w0 none
 refine wp_sr ?_
 obtain ⟨g3, hg3⟩ : ∃ g, w0.heap.size = g := ⟨_, rfl⟩
 obtain ⟨w1, hr1, B3_1, G1, hs1⟩ := al_run (op := Instr.box 44 (.agg #[(.int .i64 6), (.int .u64 0), (.string s.title), (.string s.uri), (.float .f64 (fb s.e)), (.int .i64 s.li), (.int .i64 s.off), kv, mv, (.slice none 0 0), (.bool s.disc), (.string s.date), (.int .i64 num)])) (T := 44) (cs := #[(.int .i64 6), (.int .u64 0), (.string s.title), (.string s.uri), (.float .f64 (fb s.e)), (.int .i64 s.li), (.int .i64 s.off), kv, mv, (.slice none 0 0), (.bool s.disc), (.string s.date), (.int .i64 num)]) hg3 (fun _ => by kernel_rfl)
 have Q_1 := grown_trans Q_0 G1
 have ks_1 := ks_0.gn G1
 have ms_1 := ms_0.gn G1
 have H_1 := H_0.gn G1
 refine wl_pq F0 (ex_bx h1_0 hr1) fun a1 u1 F1 (h3_1 : a1.tmps.getD 3 undef = (.pointer (some ⟨g3, 0, none⟩))) => ?_
 clear Q_0 H_0
 refine wl_pq F1 (ex_as (v := (.bool false)) rfl) fun a2 u2 F2 h4_2 => ?_
 refine wl_pq F2 (ex_as (v := (.bool false)) rfl) fun a3 u3 F3 h5_3 => ?_
 change Code.wp _ _ _ _ _
 refine wp_sr ?_
 refine wl_pq F3 (ex_fb 1 (u3.w (u2.w h3_1))) fun a4 u4 F4 h8_4 => ?_
 refine wl_pq F4 (ex_lda h8_4 (ld_agg (n := 11) (o := 1) (xs := #[(.int .u64 0), (.string s.title), (.string s.uri), (.float .f64 (fb s.e)), (.int .i64 s.li), (.int .i64 s.off), kv, mv, (.slice none 0 0), (.bool s.disc), (.string s.date)]) (fun _ => by kernel_rfl) (fun _ => by kernel_rfl) B3_1 rfl (fun k hk => by rcases k with _ | _ | _ | _ | _ | _ | _ | _ | _ | _ | _ | k <;> first | rfl | omega))) fun a5 u5 F5 (h9_5 : a5.tmps.getD 9 undef = (.agg #[(.int .u64 0), (.string s.title), (.string s.uri), (.float .f64 (fb s.e)), (.int .i64 s.li), (.int .i64 s.off), kv, mv, (.slice none 0 0), (.bool s.disc), (.string s.date)])) => ?_
 refine wl_cl (args := #[(.agg #[(.int .u64 0), (.string s.title), (.string s.uri), (.float .f64 (fb s.e)), (.int .i64 s.li), (.int .i64 s.off), kv, mv, (.slice none 0 0), (.bool s.disc), (.string s.date)])]) (R := fun v w' => ∃ q kp mp, v = pt q ∧ Blk w' q 95 (segC 0 s kp mp) ∧ KeyP w' w1.heap.size kp s.key ∧ MapP w' w1.heap.size mp s.map ∧ w1.heap.size ≤ q ∧ w1.grownBy w' none) (ex_cl (fun _ _ => by kernel_rfl) (arg1 h9_5)) ((segmentTo_any ks_1 ms_1).mono fun _ _ ⟨q, kp, mp, h, r⟩ => ⟨_, h, q, kp, mp, rfl, r⟩) F5.l ?_
 rintro v w2 ⟨q, kq, mq, rfl, Bq_2, kq0, mq0, hq, G2⟩
 have B3_2 := B3_1.gn G2
 have Q_2 := grown_trans Q_1 G2
 have ks_2 := ks_1.gn G2
 have ms_2 := ms_1.gn G2
 have H_2 := H_1.toQ G2 hq
 have hBq : B ≤ q := Nat.le_trans H_1.hw_ hq
 have kq_2 := kq0.lo' H_1.hw_
 have mq_2 := mq0.lo' H_1.hw_
 rw [hkey] at mq_2
 obtain ⟨pk, rfl, Bk_2, hBk, hqk⟩ : ∃ p, mq = some p ∧ Blk w2 p 115 (mapC qk) ∧ B ≤ p ∧ qk.Ok := by
   cases mq_2 with
   | mk h1 h2 h3 => exact ⟨_, rfl, h1, h2, h3⟩
 intro a6 u6 h10_6
 have F6 := F5.pt u6
 clear Q_1 H_1
 refine wl_pq F6 (ex_as h10_6) fun a7 u7 F7 h6_7 => ?_
 change Code.wp _ _ _ _ _
 refine wp_seq ?_
 refine wp_sr ?_
 refine wl_pq F7 (ex_mv h6_7) fun a8 u8 F8 h11_8 => ?_
 refine wl_pq F8 (ex_nil h11_8) fun a9 u9 F9 h12_9 => ?_
 refine wl_pq F9 (ex_fb 3 h12_9) fun a10 u10 F10 h13_10 => ?_
 refine wl_pq F10 (ex_le (v := (.float .f64 (fb s.e))) h13_10 (Bq_2.cell 3)) fun a11 u11 F11 h14_11 => ?_
 refine wl_cl (args := #[(.float .f64 (fb s.e))]) (R := fun v w' => v = (.bool true) ∧ w2 = w') (ex_cl (fun _ _ => by kernel_rfl) (arg1 h14_11)) ((plain_any s.e (by omega) _).mono fun _ _ h => ⟨_, h.1, rfl, h.2⟩) F11.l ?_
 rintro v w' ⟨rfl, rfl⟩
 intro a12 u12 h15_12
 have F12 := F11.pt u12
 refine wl_pq F12 (ex_un (vx := (.bool true)) (v := (.bool false)) h15_12 rfl) fun a13 u13 F13 h16_13 => ?_
 refine wl_pq F13 (ex_mv h16_13) fun a14 u14 F14 h17_14 => ?_
 have h3_14 := u14.w (u13.w (u12.w (u11.w (u10.w (u9.w (u8.w (u7.w (u6.w (u5.w (u4.w (u3.w (u2.w h3_1))))))))))))
 refine wl_gq F14 (yl (e := 17) rfl h17_14) (ex_fb 12 h3_14) fun a15 u15 F15 h18_15 => ?_
 refine wl_gq F15 (yl (e := 17) rfl (u15.w h17_14)) (ex_le (v := (.int .i64 num)) h18_15 (B3_2.cell 12)) fun a16 u16 F16 h19_16 => ?_
 refine wl_gq F16 (yl (e := 17) rfl (u16.w (u15.w h17_14))) (ex_bin (vy := (.int .i64 0)) (v := (.bool false)) h19_16 rfl ((bo_ltn num 0 _).trans (by rw [decide_eq_false (by omega)]))) fun a17 u17 F17 h20_17 => ?_
 have h17_17 := u17.w (u16.w (u15.w h17_14))
 refine wl_pq F17 (ex_pick (q := false) h17_17 h20_17) fun a18 u18 F18 h21_18 => ?_
 refine wl_pq F18 (ex_mv h21_18) fun a19 u19 F19 h22_19 => ?_
 have h3_19 := u19.w (u18.w (u17.w (u16.w (u15.w h3_14))))
 refine wl_gq F19 (yl (e := 22) rfl h22_19) (ex_fb 12 h3_19) fun a20 u20 F20 h23_20 => ?_
 refine wl_gq F20 (yl (e := 22) rfl (u20.w h22_19)) (ex_le (v := (.int .i64 num)) h23_20 (B3_2.cell 12)) fun a21 u21 F21 h24_21 => ?_
 refine wl_gq F21 (yl (e := 22) rfl (u21.w (u20.w h22_19))) (ex_bin (vy := (.int .i64 255)) (v := (.bool false)) h24_21 rfl ((bo_gtn num 255 _).trans (by rw [decide_eq_false (by omega)]))) fun a22 u22 F22 h25_22 => ?_
 have h22_22 := u22.w (u21.w (u20.w h22_19))
 refine wl_pq F22 (ex_pick (q := false) h22_22 h25_22) fun a23 u23 F23 h26_23 => ?_
 change Code.wp _ _ _ _ _
 refine wp_cond_false h26_23 ?_
 refine wp_skip ?_
 change Code.wp _ _ _ _ _
 refine wp_sr ?_
 refine wl_pq F23 (ex_as (v := .nilIface) rfl) fun a24 u24 F24 h7_24 => ?_
 change Code.wp _ _ _ _ _
 refine wp_seq ?_
 refine wp_sr ?_
 have h3_24 := u24.w (u23.w (u22.w (u21.w (u20.w h3_19))))
 refine wl_pq F24 (ex_fb 0 h3_24) fun a25 u25 F25 h27_25 => ?_
 refine wl_pq F25 (ex_le (v := (.int .i64 6)) h27_25 (B3_2.cell 0)) fun a26 u26 F26 h28_26 => ?_
 change Code.wp _ _ _ _ _
 refine wp_block ?_
 refine wp_sr ?_
 refine wl_pq F26 (ex_bin (vy := (.int .i64 0)) (v := (.bool false)) h28_26 rfl (by kernel_rfl)) fun a27 u27 F27 h30_27 => ?_
 refine wl_pq F27 (ex_as h30_27) fun a28 u28 F28 h29_28 => ?_
 change Code.wp _ _ _ _ _
 refine wp_cond_false h29_28 ?_
 refine wp_sr ?_
 refine wl_pq F28 (ex_bin (vy := (.int .i64 1)) (v := (.bool false)) (u28.w (u27.w h28_26)) rfl (by kernel_rfl)) fun a29 u29 F29 h35_29 => ?_
 refine wl_pq F29 (ex_as h35_29) fun a30 u30 F30 h34_30 => ?_
 change Code.wp _ _ _ _ _
 refine wp_cond_false h34_30 ?_
 refine wp_sr ?_
 have h28_30 := u30.w (u29.w (u28.w (u27.w h28_26)))
 refine wl_pq F30 (ex_bin (vy := (.int .i64 2)) (v := (.bool false)) h28_30 rfl (by kernel_rfl)) fun a31 u31 F31 h39_31 => ?_
 refine wl_pq F31 (ex_as h39_31) fun a32 u32 F32 h38_32 => ?_
 change Code.wp _ _ _ _ _
 refine wp_cond_false h38_32 ?_
 refine wp_sr ?_
 refine wl_pq F32 (ex_bin (vy := (.int .i64 3)) (v := (.bool false)) (u32.w (u31.w h28_30)) rfl (by kernel_rfl)) fun a33 u33 F33 h55_33 => ?_
 refine wl_pq F33 (ex_as h55_33) fun a34 u34 F34 h54_34 => ?_
 change Code.wp _ _ _ _ _
 refine wp_cond_false h54_34 ?_
 refine wp_sr ?_
 have h28_34 := u34.w (u33.w (u32.w (u31.w h28_30)))
 refine wl_pq F34 (ex_bin (vy := (.int .i64 4)) (v := (.bool false)) h28_34 rfl (by kernel_rfl)) fun a35 u35 F35 h59_35 => ?_
 refine wl_pq F35 (ex_as h59_35) fun a36 u36 F36 h58_36 => ?_
 change Code.wp _ _ _ _ _
 refine wp_cond_false h58_36 ?_
 refine wp_seq ?_
 refine wp_sr ?_
 refine wl_pq F36 (ex_bin (vy := (.int .i64 5)) (v := (.bool false)) (u36.w (u35.w h28_34)) rfl (by kernel_rfl)) fun a37 u37 F37 h66_37 => ?_
 refine wl_pq F37 (ex_as h66_37) fun a38 u38 F38 h65_38 => ?_
 change Code.wp _ _ _ _ _
 refine wp_cond_false h65_38 ?_
 refine rg_list ?_
 have h28_38 := u38.w (u37.w (u36.w (u35.w h28_34)))
 refine wl_pq F38 (ex_bin (vy := (.int .i64 11)) (v := (.bool false)) h28_38 rfl (by kernel_rfl)) fun a39 u39 F39 h67_39 => ?_
 refine wl_pq F39 (ex_as h67_39) fun a40 u40 F40 h65_40 => ?_
 change Code.wp _ _ _ _ _
 refine wp_cond_false h65_40 ?_
 refine wp_seq ?_
 refine wp_sr ?_
 refine wl_pq F40 (ex_bin (vy := (.int .i64 6)) (v := (.bool true)) (u40.w (u39.w h28_38)) rfl (by kernel_rfl)) fun a41 u41 F41 h151_41 => ?_
 refine wl_pq F41 (ex_as h151_41) fun a42 u42 F42 h150_42 => ?_
 change Code.wp _ _ _ _ _
 refine wp_cond_true h150_42 ?_
 refine wp_skip ?_
 change Code.wp _ _ _ _ _
 refine wp_cond_true h150_42 ?_
 refine wp_seq ?_
 refine wp_sr ?_
 have h6_42 := u42.w (u41.w (u40.w (u39.w (u38.w (u37.w (u36.w (u35.w (u34.w (u33.w (u32.w (u31.w (u30.w (u29.w (u28.w (u27.w (u26.w (u25.w (u24.w (u23.w (u22.w (u21.w (u20.w (u19.w (u18.w (u17.w (u16.w (u15.w (u14.w (u13.w (u12.w (u11.w (u10.w (u9.w (u8.w h6_7))))))))))))))))))))))))))))))))))
 refine wl_pq F42 (ex_mv h6_42) fun a43 u43 F43 h153_43 => ?_
 refine wl_pq F43 (ex_nil h153_43) fun a44 u44 F44 h154_44 => ?_
 refine wl_pq F44 (ex_fb 7 h154_44) fun a45 u45 F45 h155_45 => ?_
 refine wl_pq F45 (ex_le (v := (.pointer (some ⟨pk, 0, none⟩))) h155_45 (Bq_2.cell 7)) fun a46 u46 F46 h156_46 => ?_
 refine wl_pq F46 (ex_bin (vy := (.pointer none)) (v := (.bool false)) h156_46 rfl (by kernel_rfl)) fun a47 u47 F47 h157_47 => ?_
 change Code.wp _ _ _ _ _
 refine wp_cond_false h157_47 ?_
 refine wp_skip ?_
 change Code.wp _ _ _ _ _
 refine wp_sr ?_
 have h3_47 := u47.w (u46.w (u45.w (u44.w (u43.w (u42.w (u41.w (u40.w (u39.w (u38.w (u37.w (u36.w (u35.w (u34.w (u33.w (u32.w (u31.w (u30.w (u29.w (u28.w (u27.w (u26.w (u25.w h3_24))))))))))))))))))))))
 refine wl_pq F47 (ex_fb 0 h3_47) fun a48 u48 F48 h158_48 => ?_
 refine wl_pq F48 (ex_le (v := (.int .i64 6)) h158_48 (B3_2.cell 0)) fun a49 u49 F49 h159_49 => ?_
 refine wl_pq F49 (ex_bin (vy := (.int .i64 6)) (v := (.bool true)) h159_49 rfl (by kernel_rfl)) fun a50 u50 F50 h160_50 => ?_
 change Code.wp _ _ _ _ _
 refine wp_cond_true h160_50 ?_
 obtain ⟨w3, hw3⟩ : ∃ w, w = w2.drew := ⟨_, rfl⟩
 have G3 : w2.grownBy w3 none := hw3 ▸ grown_drew _
 have B3_3 := B3_2.gn G3
 have Bk_3 := Bk_2.gn G3
 have Bq_3 := Bq_2.gn G3
 have Q_3 := grown_trans Q_2 G3
 have ks_3 := ks_2.gn G3
 have ms_3 := ms_2.gn G3
 have H_3 := H_2.gn G3
 have kq_3 := kq_2.gn G3
 have mq_3 := mq_2.gn G3
 refine rg_stillt 22 hw3 hmix (by kernel_rfl) ?_
 clear Q_2 H_2 kq_2 mq_2
 have h0_50 := u50.w (u49.w (u48.w (u47.w (u46.w (u45.w (u44.w (u43.w (u42.w (u41.w (u40.w (u39.w (u38.w (u37.w (u36.w (u35.w (u34.w (u33.w (u32.w (u31.w (u30.w (u29.w (u28.w (u27.w (u26.w (u25.w (u24.w (u23.w (u22.w (u21.w (u20.w (u19.w (u18.w (u17.w (u16.w (u15.w (u14.w (u13.w (u12.w (u11.w (u10.w (u9.w (u8.w (u7.w (u6.w (u5.w (u4.w (u3.w (u2.w (u1.w h0_0)))))))))))))))))))))))))))))))))))))))))))))))))
 refine st_pq F50 (ex_mv h0_50) fun a51 u51 F51 h161_51 => ?_
 have h6_51 := u51.w (u50.w (u49.w (u48.w (u47.w (u46.w (u45.w (u44.w (u43.w h6_42))))))))
 refine st_pq F51 (ex_mv h6_51) fun a52 u52 F52 h162_52 => ?_
 refine st_pq F52 (ex_nil h162_52) fun a53 u53 F53 h163_53 => ?_
 refine st_pq F53 (ex_fb 7 h163_53) fun a54 u54 F54 h164_54 => ?_
 refine st_pq F54 (ex_le (v := (.pointer (some ⟨pk, 0, none⟩))) h164_54 (Bq_3.cell 7)) fun a55 u55 F55 h165_55 => ?_
 refine st_pq F55 (ex_nil h165_55) fun a56 u56 F56 h166_56 => ?_
 refine st_pq F56 (ex_fb 0 h166_56) fun a57 u57 F57 h167_57 => ?_
 refine st_pq F57 (ex_le (v := (.string qk.uri)) h167_57 (Bk_3.cell 0)) fun a58 u58 F58 h168_58 => ?_
 have h6_58 := u58.w (u57.w (u56.w (u55.w (u54.w (u53.w (u52.w h6_51))))))
 refine st_pq F58 (ex_mv h6_58) fun a59 u59 F59 h169_59 => ?_
 refine st_pq F59 (ex_nil h169_59) fun a60 u60 F60 h170_60 => ?_
 refine st_pq F60 (ex_fb 7 h170_60) fun a61 u61 F61 h171_61 => ?_
 refine st_pq F61 (ex_le (v := (.pointer (some ⟨pk, 0, none⟩))) h171_61 (Bq_3.cell 7)) fun a62 u62 F62 h172_62 => ?_
 refine st_pq F62 (ex_nil h172_62) fun a63 u63 F63 h173_63 => ?_
 refine st_pq F63 (ex_fb 1 h173_63) fun a64 u64 F64 h174_64 => ?_
 refine st_pq F64 (ex_le (v := (.int .i64 qk.li)) h174_64 (Bk_3.cell 1)) fun a65 u65 F65 h175_65 => ?_
 have h6_65 := u65.w (u64.w (u63.w (u62.w (u61.w (u60.w (u59.w h6_58))))))
 refine st_pq F65 (ex_mv h6_65) fun a66 u66 F66 h176_66 => ?_
 refine st_pq F66 (ex_nil h176_66) fun a67 u67 F67 h177_67 => ?_
 refine st_pq F67 (ex_fb 7 h177_67) fun a68 u68 F68 h178_68 => ?_
 refine st_pq F68 (ex_le (v := (.pointer (some ⟨pk, 0, none⟩))) h178_68 (Bq_3.cell 7)) fun a69 u69 F69 h179_69 => ?_
 refine st_pq F69 (ex_nil h179_69) fun a70 u70 F70 h180_70 => ?_
 refine st_pq F70 (ex_fb 2 h180_70) fun a71 u71 F71 h181_71 => ?_
 refine st_pq F71 (ex_le (v := (.int .i64 qk.off)) h181_71 (Bk_3.cell 2)) fun a72 u72 F72 h182_72 => ?_
 have h161_72 := u72.w (u71.w (u70.w (u69.w (u68.w (u67.w (u66.w (u65.w (u64.w (u63.w (u62.w (u61.w (u60.w (u59.w (u58.w (u57.w (u56.w (u55.w (u54.w (u53.w (u52.w h161_51))))))))))))))))))))
 have h168_72 := u72.w (u71.w (u70.w (u69.w (u68.w (u67.w (u66.w (u65.w (u64.w (u63.w (u62.w (u61.w (u60.w (u59.w h168_58)))))))))))))
 have h175_72 := u72.w (u71.w (u70.w (u69.w (u68.w (u67.w (u66.w h175_65))))))
 refine wl_cl (args := #[(.pointer (some ⟨b, 0, none⟩)), (.string qk.uri), (.int .i64 qk.li), (.int .i64 qk.off)]) (R := fun v w' => Er v (decide (d.segs.length ≠ 0)) ∧ PlS w' B b (d.leadL qk) ∧ Kt B DP w3 w') (ex_cl (fun _ _ => by kernel_rfl) (arg4 h161_72 h168_72 h175_72 h182_72)) ((smap hO hk H_3.toS hqk).mono fun _ _ h => h) F72.l ?_
 rintro vr w4 ⟨hE, hS, K4⟩
 have KK := ((Kt.refl B DP w0).nw hw0 Q_3).trans K4
 intro a73 u73 h183_73
 have F73 := F72.pt u73
 refine wl_pq F73 (ex_as h183_73) fun a74 u74 F74 h7_74 => ?_
 change Code.wp _ _ _ _ _
 refine wp_sr ?_
 refine wl_pq F74 (ex_mv h7_74) fun a75 u75 F75 h250_75 => ?_
 refine wl_pq F75 (ex_bin (vy := .nilIface) (v := (.bool (decide (d.segs.length ≠ 0)))) h250_75 rfl (er_eq hE _)) fun a76 u76 F76 h251_76 => ?_
 refine wl_pq F76 (ex_as h251_76) fun a77 u77 F77 h4_77 => ?_
 refine wl_pq F77 (ex_as (v := (.bool true)) rfl) fun a78 u78 F78 h5_78 => ?_
 change Code.wp _ _ _ _ _
 refine wp_ret ?_
 try simp only [Exit.then, Exit.inBlock]
 exact bodyPost_ret (v := .tuple #[(.bool (decide (d.segs.length ≠ 0))), (.bool true)]) ((results_tmp2 rfl _ _ _).trans (by rw [(u78.w h4_77), h5_78])) F78.defers ⟨rfl, hS, KK⟩
theorem step_12 {d : WinD} {k B b num : Nat} {s : SegD} {kv mv : Value} {w0 : World} (hO : d.Ok k) (hk9 : k < 900) (H_0 : PlS w0 B b d) (he : s.e < 160) (hnum : num ≤ 255) {qk : MapD} (hkey : s.map = some qk) (ks_0 : KeySl w0 kv s.key) (ms_0 : MapSl w0 mv s.map) : Calls Tryd.prog 28 #[pt b, .agg #[(.int .i64 12), (.int .u64 0), (.string s.title), (.string s.uri), (.float .f64 (fb s.e)), (.int .i64 s.li), (.int .i64 s.off), kv, mv, (.slice none 0 0), (.bool s.disc), (.string s.date), (.int .i64 num)]] w0 fun e w' => e = .returned (.tuple #[.bool true, .bool true]) ∧ PlS w' B b (d.leadA qk) ∧ Kt B DP w0 w' := by
 have hw0 := H_0.hw_
 have hk : k ≤ 900 := Nat.le_of_lt hk9
 refine calls_of_wp Tryd.func28 rfl ?_
 generalize hA : Act.mk _ _ = a0
 have F0 : Fz 252 a0 := by subst hA; exact ⟨by simp [Tryd.ntmps28], rfl⟩
 have h0_0 : a0.tmps.getD 0 undef = (.pointer (some ⟨b, 0, none⟩)) := by subst hA; exact fr_arg rfl
 have h1_0 : a0.tmps.getD 1 undef = (.agg #[(.int .i64 12), (.int .u64 0), (.string s.title), (.string s.uri), (.float .f64 (fb s.e)), (.int .i64 s.li), (.int .i64 s.off), kv, mv, (.slice none 0 0), (.bool s.disc), (.string s.date), (.int .i64 num)]) := by subst hA; exact fr_arg rfl
 have Q_0 := grown_refl w0 none
 refine wp_sr ?_
 obtain ⟨g3, hg3⟩ : ∃ g, w0.heap.size = g := ⟨_, rfl⟩
 obtain ⟨w1, hr1, B3_1, G1, hs1⟩ := al_run (op := Instr.box 44 (.agg #[(.int .i64 12), (.int .u64 0), (.string s.title), (.string s.uri), (.float .f64 (fb s.e)), (.int .i64 s.li), (.int .i64 s.off), kv, mv, (.slice none 0 0), (.bool s.disc), (.string s.date), (.int .i64 num)])) (T := 44) (cs := #[(.int .i64 12), (.int .u64 0), (.string s.title), (.string s.uri), (.float .f64 (fb s.e)), (.int .i64 s.li), (.int .i64 s.off), kv, mv, (.slice none 0 0), (.bool s.disc), (.string s.date), (.int .i64 num)]) hg3 (fun _ => by kernel_rfl)
 have Q_1 := grown_trans Q_0 G1
 have ks_1 := ks_0.gn G1
 have ms_1 := ms_0.gn G1
 have H_1 := H_0.gn G1
 refine wl_pq F0 (ex_bx h1_0 hr1) fun a1 u1 F1 (h3_1 : a1.tmps.getD 3 undef = (.pointer (some ⟨g3, 0, none⟩))) => ?_
 clear Q_0 H_0
 refine wl_pq F1 (ex_as (v := (.bool false)) rfl) fun a2 u2 F2 h4_2 => ?_
 refine wl_pq F2 (ex_as (v := (.bool false)) rfl) fun a3 u3 F3 h5_3 => ?_
 change Code.wp _ _ _ _ _
 refine wp_sr ?_
 refine wl_pq F3 (ex_fb 1 (u3.w (u2.w h3_1))) fun a4 u4 F4 h8_4 => ?_
 refine wl_pq F4 (ex_lda h8_4 (ld_agg (n := 11) (o := 1) (xs := #[(.int .u64 0), (.string s.title), (.string s.uri), (.float .f64 (fb s.e)), (.int .i64 s.li), (.int .i64 s.off), kv, mv, (.slice none 0 0), (.bool s.disc), (.string s.date)]) (fun _ => by kernel_rfl) (fun _ => by kernel_rfl) B3_1 rfl (fun k hk => by rcases k with _ | _ | _ | _ | _ | _ | _ | _ | _ | _ | _ | k <;> first | rfl | omega))) fun a5 u5 F5 (h9_5 : a5.tmps.getD 9 undef = (.agg #[(.int .u64 0), (.string s.title), (.string s.uri), (.float .f64 (fb s.e)), (.int .i64 s.li), (.int .i64 s.off), kv, mv, (.slice none 0 0), (.bool s.disc), (.string s.date)])) => ?_
 refine wl_cl (args := #[(.agg #[(.int .u64 0), (.string s.title), (.string s.uri), (.float .f64 (fb s.e)), (.int .i64 s.li), (.int .i64 s.off), kv, mv, (.slice none 0 0), (.bool s.disc), (.string s.date)])]) (R := fun v w' => ∃ q kp mp, v = pt q ∧ Blk w' q 95 (segC 0 s kp mp) ∧ KeyP w' w1.heap.size kp s.key ∧ MapP w' w1.heap.size mp s.map ∧ w1.heap.size ≤ q ∧ w1.grownBy w' none) (ex_cl (fun _ _ => by kernel_rfl) (arg1 h9_5)) ((segmentTo_any ks_1 ms_1).mono fun _ _ ⟨q, kp, mp, h, r⟩ => ⟨_, h, q, kp, mp, rfl, r⟩) F5.l ?_
 rintro v w2 ⟨q, kq, mq, rfl, Bq_2, kq0, mq0, hq, G2⟩
 have B3_2 := B3_1.gn G2
 have Q_2 := grown_trans Q_1 G2
 have ks_2 := ks_1.gn G2
 have ms_2 := ms_1.gn G2
 have H_2 := H_1.toQ G2 hq
 have hBq : B ≤ q := Nat.le_trans H_1.hw_ hq
 have kq_2 := kq0.lo' H_1.hw_
 have mq_2 := mq0.lo' H_1.hw_
 rw [hkey] at mq_2
 obtain ⟨pk, rfl, Bk_2, hBk, hqk⟩ : ∃ p, mq = some p ∧ Blk w2 p 115 (mapC qk) ∧ B ≤ p ∧ qk.Ok := by
   cases mq_2 with
   | mk h1 h2 h3 => exact ⟨_, rfl, h1, h2, h3⟩
 intro a6 u6 h10_6
 have F6 := F5.pt u6
 clear Q_1 H_1
 refine wl_pq F6 (ex_as h10_6) fun a7 u7 F7 h6_7 => ?_
 change Code.wp _ _ _ _ _
 refine wp_seq ?_
 refine wp_sr ?_
 refine wl_pq F7 (ex_mv h6_7) fun a8 u8 F8 h11_8 => ?_
 refine wl_pq F8 (ex_nil h11_8) fun a9 u9 F9 h12_9 => ?_
 refine wl_pq F9 (ex_fb 3 h12_9) fun a10 u10 F10 h13_10 => ?_
 refine wl_pq F10 (ex_le (v := (.float .f64 (fb s.e))) h13_10 (Bq_2.cell 3)) fun a11 u11 F11 h14_11 => ?_
 refine wl_cl (args := #[(.float .f64 (fb s.e))]) (R := fun v w' => v = (.bool true) ∧ w2 = w') (ex_cl (fun _ _ => by kernel_rfl) (arg1 h14_11)) ((plain_any s.e (by omega) _).mono fun _ _ h => ⟨_, h.1, rfl, h.2⟩) F11.l ?_
 rintro v w' ⟨rfl, rfl⟩
 intro a12 u12 h15_12
 have F12 := F11.pt u12
 refine wl_pq F12 (ex_un (vx := (.bool true)) (v := (.bool false)) h15_12 rfl) fun a13 u13 F13 h16_13 => ?_
 refine wl_pq F13 (ex_mv h16_13) fun a14 u14 F14 h17_14 => ?_
 have h3_14 := u14.w (u13.w (u12.w (u11.w (u10.w (u9.w (u8.w (u7.w (u6.w (u5.w (u4.w (u3.w (u2.w h3_1))))))))))))
 refine wl_gq F14 (yl (e := 17) rfl h17_14) (ex_fb 12 h3_14) fun a15 u15 F15 h18_15 => ?_
 refine wl_gq F15 (yl (e := 17) rfl (u15.w h17_14)) (ex_le (v := (.int .i64 num)) h18_15 (B3_2.cell 12)) fun a16 u16 F16 h19_16 => ?_
 refine wl_gq F16 (yl (e := 17) rfl (u16.w (u15.w h17_14))) (ex_bin (vy := (.int .i64 0)) (v := (.bool false)) h19_16 rfl ((bo_ltn num 0 _).trans (by rw [decide_eq_false (by omega)]))) fun a17 u17 F17 h20_17 => ?_
 have h17_17 := u17.w (u16.w (u15.w h17_14))
 refine wl_pq F17 (ex_pick (q := false) h17_17 h20_17) fun a18 u18 F18 h21_18 => ?_
 refine wl_pq F18 (ex_mv h21_18) fun a19 u19 F19 h22_19 => ?_
 have h3_19 := u19.w (u18.w (u17.w (u16.w (u15.w h3_14))))
 refine wl_gq F19 (yl (e := 22) rfl h22_19) (ex_fb 12 h3_19) fun a20 u20 F20 h23_20 => ?_
 refine wl_gq F20 (yl (e := 22) rfl (u20.w h22_19)) (ex_le (v := (.int .i64 num)) h23_20 (B3_2.cell 12)) fun a21 u21 F21 h24_21 => ?_
 refine wl_gq F21 (yl (e := 22) rfl (u21.w (u20.w h22_19))) (ex_bin (vy := (.int .i64 255)) (v := (.bool false)) h24_21 rfl ((bo_gtn num 255 _).trans (by rw [decide_eq_false (by omega)]))) fun a22 u22 F22 h25_22 => ?_
 have h22_22 := u22.w (u21.w (u20.w h22_19))
 refine wl_pq F22 (ex_pick (q := false) h22_22 h25_22) fun a23 u23 F23 h26_23 => ?_
 change Code.wp _ _ _ _ _
 refine wp_cond_false h26_23 ?_
 refine wp_skip ?_
 change Code.wp _ _ _ _ _
 refine wp_sr ?_
 refine wl_pq F23 (ex_as (v := .nilIface) rfl) fun a24 u24 F24 h7_24 => ?_
 change Code.wp _ _ _ _ _
 refine wp_seq ?_
 refine wp_sr ?_
 have h3_24 := u24.w (u23.w (u22.w (u21.w (u20.w h3_19))))
 refine wl_pq F24 (ex_fb 0 h3_24) fun a25 u25 F25 h27_25 => ?_
 refine wl_pq F25 (ex_le (v := (.int .i64 12)) h27_25 (B3_2.cell 0)) fun a26 u26 F26 h28_26 => ?_
 change Code.wp _ _ _ _ _
 refine wp_block ?_
 refine wp_sr ?_
 refine wl_pq F26 (ex_bin (vy := (.int .i64 0)) (v := (.bool false)) h28_26 rfl (by kernel_rfl)) fun a27 u27 F27 h30_27 => ?_
 refine wl_pq F27 (ex_as h30_27) fun a28 u28 F28 h29_28 => ?_
 change Code.wp _ _ _ _ _
 refine wp_cond_false h29_28 ?_
 refine wp_sr ?_
 refine wl_pq F28 (ex_bin (vy := (.int .i64 1)) (v := (.bool false)) (u28.w (u27.w h28_26)) rfl (by kernel_rfl)) fun a29 u29 F29 h35_29 => ?_
 refine wl_pq F29 (ex_as h35_29) fun a30 u30 F30 h34_30 => ?_
 change Code.wp _ _ _ _ _
 refine wp_cond_false h34_30 ?_
 refine wp_sr ?_
 have h28_30 := u30.w (u29.w (u28.w (u27.w h28_26)))
 refine wl_pq F30 (ex_bin (vy := (.int .i64 2)) (v := (.bool false)) h28_30 rfl (by kernel_rfl)) fun a31 u31 F31 h39_31 => ?_
 refine wl_pq F31 (ex_as h39_31) fun a32 u32 F32 h38_32 => ?_
 change Code.wp _ _ _ _ _
 refine wp_cond_false h38_32 ?_
 refine wp_sr ?_
 refine wl_pq F32 (ex_bin (vy := (.int .i64 3)) (v := (.bool false)) (u32.w (u31.w h28_30)) rfl (by kernel_rfl)) fun a33 u33 F33 h55_33 => ?_
 refine wl_pq F33 (ex_as h55_33) fun a34 u34 F34 h54_34 => ?_
 change Code.wp _ _ _ _ _
 refine wp_cond_false h54_34 ?_
 refine wp_sr ?_
 have h28_34 := u34.w (u33.w (u32.w (u31.w h28_30)))
 refine wl_pq F34 (ex_bin (vy := (.int .i64 4)) (v := (.bool false)) h28_34 rfl (by kernel_rfl)) fun a35 u35 F35 h59_35 => ?_
 refine wl_pq F35 (ex_as h59_35) fun a36 u36 F36 h58_36 => ?_
 change Code.wp _ _ _ _ _
 refine wp_cond_false h58_36 ?_
 refine wp_seq ?_
 refine wp_sr ?_
 refine wl_pq F36 (ex_bin (vy := (.int .i64 5)) (v := (.bool false)) (u36.w (u35.w h28_34)) rfl (by kernel_rfl)) fun a37 u37 F37 h66_37 => ?_
 refine wl_pq F37 (ex_as h66_37) fun a38 u38 F38 h65_38 => ?_
 change Code.wp _ _ _ _ _
 refine wp_cond_false h65_38 ?_
 refine rg_list ?_
 have h28_38 := u38.w (u37.w (u36.w (u35.w h28_34)))
 refine wl_pq F38 (ex_bin (vy := (.int .i64 11)) (v := (.bool false)) h28_38 rfl (by kernel_rfl)) fun a39 u39 F39 h67_39 => ?_
 refine wl_pq F39 (ex_as h67_39) fun a40 u40 F40 h65_40 => ?_
 change Code.wp _ _ _ _ _
 refine wp_cond_false h65_40 ?_
 refine wp_seq ?_
 refine wp_sr ?_
 refine wl_pq F40 (ex_bin (vy := (.int .i64 6)) (v := (.bool false)) (u40.w (u39.w h28_38)) rfl (by kernel_rfl)) fun a41 u41 F41 h151_41 => ?_
 refine wl_pq F41 (ex_as h151_41) fun a42 u42 F42 h150_42 => ?_
 change Code.wp _ _ _ _ _
 refine wp_cond_false h150_42 ?_
 refine rg_list ?_
 have h28_42 := u42.w (u41.w (u40.w (u39.w h28_38)))
 refine wl_pq F42 (ex_bin (vy := (.int .i64 12)) (v := (.bool true)) h28_42 rfl (by kernel_rfl)) fun a43 u43 F43 h152_43 => ?_
 refine wl_pq F43 (ex_as h152_43) fun a44 u44 F44 h150_44 => ?_
 change Code.wp _ _ _ _ _
 refine wp_cond_true h150_44 ?_
 refine wp_seq ?_
 refine wp_sr ?_
 have h6_44 := u44.w (u43.w (u42.w (u41.w (u40.w (u39.w (u38.w (u37.w (u36.w (u35.w (u34.w (u33.w (u32.w (u31.w (u30.w (u29.w (u28.w (u27.w (u26.w (u25.w (u24.w (u23.w (u22.w (u21.w (u20.w (u19.w (u18.w (u17.w (u16.w (u15.w (u14.w (u13.w (u12.w (u11.w (u10.w (u9.w (u8.w h6_7))))))))))))))))))))))))))))))))))))
 refine wl_pq F44 (ex_mv h6_44) fun a45 u45 F45 h153_45 => ?_
 refine wl_pq F45 (ex_nil h153_45) fun a46 u46 F46 h154_46 => ?_
 refine wl_pq F46 (ex_fb 7 h154_46) fun a47 u47 F47 h155_47 => ?_
 refine wl_pq F47 (ex_le (v := (.pointer (some ⟨pk, 0, none⟩))) h155_47 (Bq_2.cell 7)) fun a48 u48 F48 h156_48 => ?_
 refine wl_pq F48 (ex_bin (vy := (.pointer none)) (v := (.bool false)) h156_48 rfl (by kernel_rfl)) fun a49 u49 F49 h157_49 => ?_
 change Code.wp _ _ _ _ _
 refine wp_cond_false h157_49 ?_
 refine wp_skip ?_
 change Code.wp _ _ _ _ _
 refine wp_sr ?_
 have h3_49 := u49.w (u48.w (u47.w (u46.w (u45.w (u44.w (u43.w (u42.w (u41.w (u40.w (u39.w (u38.w (u37.w (u36.w (u35.w (u34.w (u33.w (u32.w (u31.w (u30.w (u29.w (u28.w (u27.w (u26.w (u25.w h3_24))))))))))))))))))))))))
 refine wl_pq F49 (ex_fb 0 h3_49) fun a50 u50 F50 h158_50 => ?_
 refine wl_pq F50 (ex_le (v := (.int .i64 12)) h158_50 (B3_2.cell 0)) fun a51 u51 F51 h159_51 => ?_
 refine wl_pq F51 (ex_bin (vy := (.int .i64 6)) (v := (.bool false)) h159_51 rfl (by kernel_rfl)) fun a52 u52 F52 h160_52 => ?_
 change Code.wp _ _ _ _ _
 refine wp_cond_false h160_52 ?_
 obtain ⟨w3, hw3⟩ : ∃ w, w = w2.drew := ⟨_, rfl⟩
 have G3 : w2.grownBy w3 none := hw3 ▸ grown_drew _
 have B3_3 := B3_2.gn G3
 have Bk_3 := Bk_2.gn G3
 have Bq_3 := Bq_2.gn G3
 have Q_3 := grown_trans Q_2 G3
 have ks_3 := ks_2.gn G3
 have ms_3 := ms_2.gn G3
 have H_3 := H_2.gn G3
 have kq_3 := kq_2.gn G3
 have mq_3 := mq_2.gn G3
 refine rg_stillt 22 hw3 hmix (by kernel_rfl) ?_
 clear Q_2 H_2 kq_2 mq_2
 have h0_52 := u52.w (u51.w (u50.w (u49.w (u48.w (u47.w (u46.w (u45.w (u44.w (u43.w (u42.w (u41.w (u40.w (u39.w (u38.w (u37.w (u36.w (u35.w (u34.w (u33.w (u32.w (u31.w (u30.w (u29.w (u28.w (u27.w (u26.w (u25.w (u24.w (u23.w (u22.w (u21.w (u20.w (u19.w (u18.w (u17.w (u16.w (u15.w (u14.w (u13.w (u12.w (u11.w (u10.w (u9.w (u8.w (u7.w (u6.w (u5.w (u4.w (u3.w (u2.w (u1.w h0_0)))))))))))))))))))))))))))))))))))))))))))))))))))
 refine st_pq F52 (ex_mv h0_52) fun a53 u53 F53 h184_53 => ?_
 have h6_53 := u53.w (u52.w (u51.w (u50.w (u49.w (u48.w (u47.w (u46.w (u45.w h6_44))))))))
 refine st_pq F53 (ex_mv h6_53) fun a54 u54 F54 h185_54 => ?_
 refine st_pq F54 (ex_nil h185_54) fun a55 u55 F55 h186_55 => ?_
 refine st_pq F55 (ex_fb 7 h186_55) fun a56 u56 F56 h187_56 => ?_
 refine st_pq F56 (ex_le (v := (.pointer (some ⟨pk, 0, none⟩))) h187_56 (Bq_3.cell 7)) fun a57 u57 F57 h188_57 => ?_
 refine st_pq F57 (ex_nil h188_57) fun a58 u58 F58 h189_58 => ?_
 refine st_pq F58 (ex_fb 0 h189_58) fun a59 u59 F59 h190_59 => ?_
 refine st_pq F59 (ex_le (v := (.string qk.uri)) h190_59 (Bk_3.cell 0)) fun a60 u60 F60 h191_60 => ?_
 have h6_60 := u60.w (u59.w (u58.w (u57.w (u56.w (u55.w (u54.w h6_53))))))
 refine st_pq F60 (ex_mv h6_60) fun a61 u61 F61 h192_61 => ?_
 refine st_pq F61 (ex_nil h192_61) fun a62 u62 F62 h193_62 => ?_
 refine st_pq F62 (ex_fb 7 h193_62) fun a63 u63 F63 h194_63 => ?_
 refine st_pq F63 (ex_le (v := (.pointer (some ⟨pk, 0, none⟩))) h194_63 (Bq_3.cell 7)) fun a64 u64 F64 h195_64 => ?_
 refine st_pq F64 (ex_nil h195_64) fun a65 u65 F65 h196_65 => ?_
 refine st_pq F65 (ex_fb 1 h196_65) fun a66 u66 F66 h197_66 => ?_
 refine st_pq F66 (ex_le (v := (.int .i64 qk.li)) h197_66 (Bk_3.cell 1)) fun a67 u67 F67 h198_67 => ?_
 have h6_67 := u67.w (u66.w (u65.w (u64.w (u63.w (u62.w (u61.w h6_60))))))
 refine st_pq F67 (ex_mv h6_67) fun a68 u68 F68 h199_68 => ?_
 refine st_pq F68 (ex_nil h199_68) fun a69 u69 F69 h200_69 => ?_
 refine st_pq F69 (ex_fb 7 h200_69) fun a70 u70 F70 h201_70 => ?_
 refine st_pq F70 (ex_le (v := (.pointer (some ⟨pk, 0, none⟩))) h201_70 (Bq_3.cell 7)) fun a71 u71 F71 h202_71 => ?_
 refine st_pq F71 (ex_nil h202_71) fun a72 u72 F72 h203_72 => ?_
 refine st_pq F72 (ex_fb 2 h203_72) fun a73 u73 F73 h204_73 => ?_
 refine st_pq F73 (ex_le (v := (.int .i64 qk.off)) h204_73 (Bk_3.cell 2)) fun a74 u74 F74 h205_74 => ?_
 have h184_74 := u74.w (u73.w (u72.w (u71.w (u70.w (u69.w (u68.w (u67.w (u66.w (u65.w (u64.w (u63.w (u62.w (u61.w (u60.w (u59.w (u58.w (u57.w (u56.w (u55.w (u54.w h184_53))))))))))))))))))))
 have h191_74 := u74.w (u73.w (u72.w (u71.w (u70.w (u69.w (u68.w (u67.w (u66.w (u65.w (u64.w (u63.w (u62.w (u61.w h191_60)))))))))))))
 have h198_74 := u74.w (u73.w (u72.w (u71.w (u70.w (u69.w (u68.w h198_67))))))
 refine wl_cl (args := #[(.pointer (some ⟨b, 0, none⟩)), (.string qk.uri), (.int .i64 qk.li), (.int .i64 qk.off)]) (R := fun v w' => v = .tuple #[] ∧ PlS w' B b (d.leadA qk) ∧ Kt B DP w3 w') (ex_cl (fun _ _ => by kernel_rfl) (arg4 h184_74 h191_74 h198_74 h205_74)) ((dmap_any hO hk H_3.toS hqk).mono fun _ _ h => ⟨_, h.1, rfl, h.2⟩) F74.l ?_
 rintro v w4 ⟨rfl, hS, K4⟩
 have KK := ((Kt.refl B DP w0).nw hw0 Q_3).trans K4
 intro a75 u75 h206_75
 have F75 := F74.pt u75
 change Code.wp _ _ _ _ _
 refine wp_sr ?_
 have h7_75 := u75.w (u74.w (u73.w (u72.w (u71.w (u70.w (u69.w (u68.w (u67.w (u66.w (u65.w (u64.w (u63.w (u62.w (u61.w (u60.w (u59.w (u58.w (u57.w (u56.w (u55.w (u54.w (u53.w (u52.w (u51.w (u50.w (u49.w (u48.w (u47.w (u46.w (u45.w (u44.w (u43.w (u42.w (u41.w (u40.w (u39.w (u38.w (u37.w (u36.w (u35.w (u34.w (u33.w (u32.w (u31.w (u30.w (u29.w (u28.w (u27.w (u26.w (u25.w h7_24))))))))))))))))))))))))))))))))))))))))))))))))))
 refine wl_pq F75 (ex_mv h7_75) fun a76 u76 F76 h250_76 => ?_
 refine wl_pq F76 (ex_bin (vy := .nilIface) (v := (.bool true)) h250_76 rfl (by kernel_rfl)) fun a77 u77 F77 h251_77 => ?_
 refine wl_pq F77 (ex_as h251_77) fun a78 u78 F78 h4_78 => ?_
 refine wl_pq F78 (ex_as (v := (.bool true)) rfl) fun a79 u79 F79 h5_79 => ?_
 change Code.wp _ _ _ _ _
 refine wp_ret ?_
 try simp only [Exit.then, Exit.inBlock]
 exact bodyPost_ret (v := .tuple #[(.bool true), (.bool true)]) ((results_tmp2 rfl _ _ _).trans (by rw [(u79.w h4_78), h5_79])) F79.defers ⟨rfl, hS, KK⟩
theorem step_7 {d : WinD} {k B b num : Nat} {s : SegD} {kv mv : Value} {w0 : World} (hO : d.Ok k) (hk9 : k < 900) (H_0 : PlS w0 B b d) (he : s.e < 160) (hnum : num ≤ 255) (ks_0 : KeySl w0 kv s.key) (ms_0 : MapSl w0 mv s.map) : Calls Tryd.prog 28 #[pt b, .agg #[(.int .i64 7), (.int .u64 0), (.string s.title), (.string s.uri), (.float .f64 (fb s.e)), (.int .i64 s.li), (.int .i64 s.off), kv, mv, (.slice none 0 0), (.bool s.disc), (.string s.date), (.int .i64 num)]] w0 fun e w' => e = .returned (.tuple #[.bool (decide (d.segs.length ≠ 0)), .bool true]) ∧ PlS w' B b (d.rangeL s.li s.off) ∧ Kt B DP w0 w' := by
 have hw0 := H_0.hw_
 have hk : k ≤ 900 := Nat.le_of_lt hk9
 refine calls_of_wp Tryd.func28 rfl ?_
 generalize hA : Act.mk _ _ = a0
 have F0 : Fz 252 a0 := by subst hA; exact ⟨by simp [Tryd.ntmps28], rfl⟩
 have h0_0 : a0.tmps.getD 0 undef = (.pointer (some ⟨b, 0, none⟩)) := by subst hA; exact fr_arg rfl
 have h1_0 : a0.tmps.getD 1 undef = (.agg #[(.int .i64 7), (.int .u64 0), (.string s.title), (.string s.uri), (.float .f64 (fb s.e)), (.int .i64 s.li), (.int .i64 s.off), kv, mv, (.slice none 0 0), (.bool s.disc), (.string s.date), (.int .i64 num)]) := by subst hA; exact fr_arg rfl
 have Q_0 := grown_refl w0 none
 refine wp_sr ?_
 obtain ⟨g3, hg3⟩ : ∃ g, w0.heap.size = g := ⟨_, rfl⟩
 obtain ⟨w1, hr1, B3_1, G1, hs1⟩ := al_run (op := Instr.box 44 (.agg #[(.int .i64 7), (.int .u64 0), (.string s.title), (.string s.uri), (.float .f64 (fb s.e)), (.int .i64 s.li), (.int .i64 s.off), kv, mv, (.slice none 0 0), (.bool s.disc), (.string s.date), (.int .i64 num)])) (T := 44) (cs := #[(.int .i64 7), (.int .u64 0), (.string s.title), (.string s.uri), (.float .f64 (fb s.e)), (.int .i64 s.li), (.int .i64 s.off), kv, mv, (.slice none 0 0), (.bool s.disc), (.string s.date), (.int .i64 num)]) hg3 (fun _ => by kernel_rfl)
 have Q_1 := grown_trans Q_0 G1
 have ks_1 := ks_0.gn G1
 have ms_1 := ms_0.gn G1
 have H_1 := H_0.gn G1
 refine wl_pq F0 (ex_bx h1_0 hr1) fun a1 u1 F1 (h3_1 : a1.tmps.getD 3 undef = (.pointer (some ⟨g3, 0, none⟩))) => ?_
 clear Q_0 H_0
 refine wl_pq F1 (ex_as (v := (.bool false)) rfl) fun a2 u2 F2 h4_2 => ?_
 refine wl_pq F2 (ex_as (v := (.bool false)) rfl) fun a3 u3 F3 h5_3 => ?_
 change Code.wp _ _ _ _ _
 refine wp_sr ?_
 refine wl_pq F3 (ex_fb 1 (u3.w (u2.w h3_1))) fun a4 u4 F4 h8_4 => ?_
 refine wl_pq F4 (ex_lda h8_4 (ld_agg (n := 11) (o := 1) (xs := #[(.int .u64 0), (.string s.title), (.string s.uri), (.float .f64 (fb s.e)), (.int .i64 s.li), (.int .i64 s.off), kv, mv, (.slice none 0 0), (.bool s.disc), (.string s.date)]) (fun _ => by kernel_rfl) (fun _ => by kernel_rfl) B3_1 rfl (fun k hk => by rcases k with _ | _ | _ | _ | _ | _ | _ | _ | _ | _ | _ | k <;> first | rfl | omega))) fun a5 u5 F5 (h9_5 : a5.tmps.getD 9 undef = (.agg #[(.int .u64 0), (.string s.title), (.string s.uri), (.float .f64 (fb s.e)), (.int .i64 s.li), (.int .i64 s.off), kv, mv, (.slice none 0 0), (.bool s.disc), (.string s.date)])) => ?_
 refine wl_cl (args := #[(.agg #[(.int .u64 0), (.string s.title), (.string s.uri), (.float .f64 (fb s.e)), (.int .i64 s.li), (.int .i64 s.off), kv, mv, (.slice none 0 0), (.bool s.disc), (.string s.date)])]) (R := fun v w' => ∃ q kp mp, v = pt q ∧ Blk w' q 95 (segC 0 s kp mp) ∧ KeyP w' w1.heap.size kp s.key ∧ MapP w' w1.heap.size mp s.map ∧ w1.heap.size ≤ q ∧ w1.grownBy w' none) (ex_cl (fun _ _ => by kernel_rfl) (arg1 h9_5)) ((segmentTo_any ks_1 ms_1).mono fun _ _ ⟨q, kp, mp, h, r⟩ => ⟨_, h, q, kp, mp, rfl, r⟩) F5.l ?_
 rintro v w2 ⟨q, kq, mq, rfl, Bq_2, kq0, mq0, hq, G2⟩
 have B3_2 := B3_1.gn G2
 have Q_2 := grown_trans Q_1 G2
 have ks_2 := ks_1.gn G2
 have ms_2 := ms_1.gn G2
 have H_2 := H_1.toQ G2 hq
 have hBq : B ≤ q := Nat.le_trans H_1.hw_ hq
 have kq_2 := kq0.lo' H_1.hw_
 have mq_2 := mq0.lo' H_1.hw_
 intro a6 u6 h10_6
 have F6 := F5.pt u6
 clear Q_1 H_1
 refine wl_pq F6 (ex_as h10_6) fun a7 u7 F7 h6_7 => ?_
 change Code.wp _ _ _ _ _
 refine wp_seq ?_
 refine wp_sr ?_
 refine wl_pq F7 (ex_mv h6_7) fun a8 u8 F8 h11_8 => ?_
 refine wl_pq F8 (ex_nil h11_8) fun a9 u9 F9 h12_9 => ?_
 refine wl_pq F9 (ex_fb 3 h12_9) fun a10 u10 F10 h13_10 => ?_
 refine wl_pq F10 (ex_le (v := (.float .f64 (fb s.e))) h13_10 (Bq_2.cell 3)) fun a11 u11 F11 h14_11 => ?_
 refine wl_cl (args := #[(.float .f64 (fb s.e))]) (R := fun v w' => v = (.bool true) ∧ w2 = w') (ex_cl (fun _ _ => by kernel_rfl) (arg1 h14_11)) ((plain_any s.e (by omega) _).mono fun _ _ h => ⟨_, h.1, rfl, h.2⟩) F11.l ?_
 rintro v w' ⟨rfl, rfl⟩
 intro a12 u12 h15_12
 have F12 := F11.pt u12
 refine wl_pq F12 (ex_un (vx := (.bool true)) (v := (.bool false)) h15_12 rfl) fun a13 u13 F13 h16_13 => ?_
 refine wl_pq F13 (ex_mv h16_13) fun a14 u14 F14 h17_14 => ?_
 have h3_14 := u14.w (u13.w (u12.w (u11.w (u10.w (u9.w (u8.w (u7.w (u6.w (u5.w (u4.w (u3.w (u2.w h3_1))))))))))))
 refine wl_gq F14 (yl (e := 17) rfl h17_14) (ex_fb 12 h3_14) fun a15 u15 F15 h18_15 => ?_
 refine wl_gq F15 (yl (e := 17) rfl (u15.w h17_14)) (ex_le (v := (.int .i64 num)) h18_15 (B3_2.cell 12)) fun a16 u16 F16 h19_16 => ?_
 refine wl_gq F16 (yl (e := 17) rfl (u16.w (u15.w h17_14))) (ex_bin (vy := (.int .i64 0)) (v := (.bool false)) h19_16 rfl ((bo_ltn num 0 _).trans (by rw [decide_eq_false (by omega)]))) fun a17 u17 F17 h20_17 => ?_
 have h17_17 := u17.w (u16.w (u15.w h17_14))
 refine wl_pq F17 (ex_pick (q := false) h17_17 h20_17) fun a18 u18 F18 h21_18 => ?_
 refine wl_pq F18 (ex_mv h21_18) fun a19 u19 F19 h22_19 => ?_
 have h3_19 := u19.w (u18.w (u17.w (u16.w (u15.w h3_14))))
 refine wl_gq F19 (yl (e := 22) rfl h22_19) (ex_fb 12 h3_19) fun a20 u20 F20 h23_20 => ?_
 refine wl_gq F20 (yl (e := 22) rfl (u20.w h22_19)) (ex_le (v := (.int .i64 num)) h23_20 (B3_2.cell 12)) fun a21 u21 F21 h24_21 => ?_
 refine wl_gq F21 (yl (e := 22) rfl (u21.w (u20.w h22_19))) (ex_bin (vy := (.int .i64 255)) (v := (.bool false)) h24_21 rfl ((bo_gtn num 255 _).trans (by rw [decide_eq_false (by omega)]))) fun a22 u22 F22 h25_22 => ?_
 have h22_22 := u22.w (u21.w (u20.w h22_19))
 refine wl_pq F22 (ex_pick (q := false) h22_22 h25_22) fun a23 u23 F23 h26_23 => ?_
 change Code.wp _ _ _ _ _
 refine wp_cond_false h26_23 ?_
 refine wp_skip ?_
 change Code.wp _ _ _ _ _
 refine wp_sr ?_
 refine wl_pq F23 (ex_as (v := .nilIface) rfl) fun a24 u24 F24 h7_24 => ?_
 change Code.wp _ _ _ _ _
 refine wp_seq ?_
 refine wp_sr ?_
 have h3_24 := u24.w (u23.w (u22.w (u21.w (u20.w h3_19))))
 refine wl_pq F24 (ex_fb 0 h3_24) fun a25 u25 F25 h27_25 => ?_
 refine wl_pq F25 (ex_le (v := (.int .i64 7)) h27_25 (B3_2.cell 0)) fun a26 u26 F26 h28_26 => ?_
 change Code.wp _ _ _ _ _
 refine wp_block ?_
 refine wp_sr ?_
 refine wl_pq F26 (ex_bin (vy := (.int .i64 0)) (v := (.bool false)) h28_26 rfl (by kernel_rfl)) fun a27 u27 F27 h30_27 => ?_
 refine wl_pq F27 (ex_as h30_27) fun a28 u28 F28 h29_28 => ?_
 change Code.wp _ _ _ _ _
 refine wp_cond_false h29_28 ?_
 refine wp_sr ?_
 refine wl_pq F28 (ex_bin (vy := (.int .i64 1)) (v := (.bool false)) (u28.w (u27.w h28_26)) rfl (by kernel_rfl)) fun a29 u29 F29 h35_29 => ?_
 refine wl_pq F29 (ex_as h35_29) fun a30 u30 F30 h34_30 => ?_
 change Code.wp _ _ _ _ _
 refine wp_cond_false h34_30 ?_
 refine wp_sr ?_
 have h28_30 := u30.w (u29.w (u28.w (u27.w h28_26)))
 refine wl_pq F30 (ex_bin (vy := (.int .i64 2)) (v := (.bool false)) h28_30 rfl (by kernel_rfl)) fun a31 u31 F31 h39_31 => ?_
 refine wl_pq F31 (ex_as h39_31) fun a32 u32 F32 h38_32 => ?_
 change Code.wp _ _ _ _ _
 refine wp_cond_false h38_32 ?_
 refine wp_sr ?_
 refine wl_pq F32 (ex_bin (vy := (.int .i64 3)) (v := (.bool false)) (u32.w (u31.w h28_30)) rfl (by kernel_rfl)) fun a33 u33 F33 h55_33 => ?_
 refine wl_pq F33 (ex_as h55_33) fun a34 u34 F34 h54_34 => ?_
 change Code.wp _ _ _ _ _
 refine wp_cond_false h54_34 ?_
 refine wp_sr ?_
 have h28_34 := u34.w (u33.w (u32.w (u31.w h28_30)))
 refine wl_pq F34 (ex_bin (vy := (.int .i64 4)) (v := (.bool false)) h28_34 rfl (by kernel_rfl)) fun a35 u35 F35 h59_35 => ?_
 refine wl_pq F35 (ex_as h59_35) fun a36 u36 F36 h58_36 => ?_
 change Code.wp _ _ _ _ _
 refine wp_cond_false h58_36 ?_
 refine wp_seq ?_
 refine wp_sr ?_
 refine wl_pq F36 (ex_bin (vy := (.int .i64 5)) (v := (.bool false)) (u36.w (u35.w h28_34)) rfl (by kernel_rfl)) fun a37 u37 F37 h66_37 => ?_
 refine wl_pq F37 (ex_as h66_37) fun a38 u38 F38 h65_38 => ?_
 change Code.wp _ _ _ _ _
 refine wp_cond_false h65_38 ?_
 refine rg_list ?_
 have h28_38 := u38.w (u37.w (u36.w (u35.w h28_34)))
 refine wl_pq F38 (ex_bin (vy := (.int .i64 11)) (v := (.bool false)) h28_38 rfl (by kernel_rfl)) fun a39 u39 F39 h67_39 => ?_
 refine wl_pq F39 (ex_as h67_39) fun a40 u40 F40 h65_40 => ?_
 change Code.wp _ _ _ _ _
 refine wp_cond_false h65_40 ?_
 refine wp_seq ?_
 refine wp_sr ?_
 refine wl_pq F40 (ex_bin (vy := (.int .i64 6)) (v := (.bool false)) (u40.w (u39.w h28_38)) rfl (by kernel_rfl)) fun a41 u41 F41 h151_41 => ?_
 refine wl_pq F41 (ex_as h151_41) fun a42 u42 F42 h150_42 => ?_
 change Code.wp _ _ _ _ _
 refine wp_cond_false h150_42 ?_
 refine rg_list ?_
 have h28_42 := u42.w (u41.w (u40.w (u39.w h28_38)))
 refine wl_pq F42 (ex_bin (vy := (.int .i64 12)) (v := (.bool false)) h28_42 rfl (by kernel_rfl)) fun a43 u43 F43 h152_43 => ?_
 refine wl_pq F43 (ex_as h152_43) fun a44 u44 F44 h150_44 => ?_
 change Code.wp _ _ _ _ _
 refine wp_cond_false h150_44 ?_
 refine wp_sr ?_
 refine wl_pq F44 (ex_bin (vy := (.int .i64 7)) (v := (.bool true)) (u44.w (u43.w h28_42)) rfl (by kernel_rfl)) fun a45 u45 F45 h208_45 => ?_
 refine wl_pq F45 (ex_as h208_45) fun a46 u46 F46 h207_46 => ?_
 change Code.wp _ _ _ _ _
 refine wp_cond_true h207_46 ?_
 obtain ⟨w3, hw3⟩ : ∃ w, w = w2.drew := ⟨_, rfl⟩
 have G3 : w2.grownBy w3 none := hw3 ▸ grown_drew _
 have B3_3 := B3_2.gn G3
 have Bq_3 := Bq_2.gn G3
 have Q_3 := grown_trans Q_2 G3
 have ks_3 := ks_2.gn G3
 have ms_3 := ms_2.gn G3
 have H_3 := H_2.gn G3
 have kq_3 := kq_2.gn G3
 have mq_3 := mq_2.gn G3
 refine rg_stillt 9 hw3 hmix (by kernel_rfl) ?_
 clear Q_2 H_2 kq_2 mq_2
 have h0_46 := u46.w (u45.w (u44.w (u43.w (u42.w (u41.w (u40.w (u39.w (u38.w (u37.w (u36.w (u35.w (u34.w (u33.w (u32.w (u31.w (u30.w (u29.w (u28.w (u27.w (u26.w (u25.w (u24.w (u23.w (u22.w (u21.w (u20.w (u19.w (u18.w (u17.w (u16.w (u15.w (u14.w (u13.w (u12.w (u11.w (u10.w (u9.w (u8.w (u7.w (u6.w (u5.w (u4.w (u3.w (u2.w (u1.w h0_0)))))))))))))))))))))))))))))))))))))))))))))
 refine st_pq F46 (ex_mv h0_46) fun a47 u47 F47 h209_47 => ?_
 have h6_47 := u47.w (u46.w (u45.w (u44.w (u43.w (u42.w (u41.w (u40.w (u39.w (u38.w (u37.w (u36.w (u35.w (u34.w (u33.w (u32.w (u31.w (u30.w (u29.w (u28.w (u27.w (u26.w (u25.w (u24.w (u23.w (u22.w (u21.w (u20.w (u19.w (u18.w (u17.w (u16.w (u15.w (u14.w (u13.w (u12.w (u11.w (u10.w (u9.w (u8.w h6_7)))))))))))))))))))))))))))))))))))))))
 refine st_pq F47 (ex_mv h6_47) fun a48 u48 F48 h210_48 => ?_
 refine st_pq F48 (ex_nil h210_48) fun a49 u49 F49 h211_49 => ?_
 refine st_pq F49 (ex_fb 4 h211_49) fun a50 u50 F50 h212_50 => ?_
 refine st_pq F50 (ex_le (v := (.int .i64 s.li)) h212_50 (Bq_3.cell 4)) fun a51 u51 F51 h213_51 => ?_
 have h6_51 := u51.w (u50.w (u49.w (u48.w h6_47)))
 refine st_pq F51 (ex_mv h6_51) fun a52 u52 F52 h214_52 => ?_
 refine st_pq F52 (ex_nil h214_52) fun a53 u53 F53 h215_53 => ?_
 refine st_pq F53 (ex_fb 5 h215_53) fun a54 u54 F54 h216_54 => ?_
 refine st_pq F54 (ex_le (v := (.int .i64 s.off)) h216_54 (Bq_3.cell 5)) fun a55 u55 F55 h217_55 => ?_
 have h209_55 := u55.w (u54.w (u53.w (u52.w (u51.w (u50.w (u49.w (u48.w h209_47)))))))
 have h213_55 := u55.w (u54.w (u53.w (u52.w h213_51)))
 refine wl_cl (args := #[(.pointer (some ⟨b, 0, none⟩)), (.int .i64 s.li), (.int .i64 s.off)]) (R := fun v w' => Er v (decide (d.segs.length ≠ 0)) ∧ PlS w' B b (d.rangeL s.li s.off) ∧ Kt B DP w3 w') (ex_cl (fun _ _ => by kernel_rfl) (arg3 h209_55 h213_55 h217_55)) ((srange hO hk H_3.toS).mono fun _ _ h => h) F55.l ?_
 rintro vr w4 ⟨hE, hS, K4⟩
 have KK := ((Kt.refl B DP w0).nw hw0 Q_3).trans K4
 intro a56 u56 h218_56
 have F56 := F55.pt u56
 refine wl_pq F56 (ex_as h218_56) fun a57 u57 F57 h7_57 => ?_
 change Code.wp _ _ _ _ _
 refine wp_sr ?_
 refine wl_pq F57 (ex_mv h7_57) fun a58 u58 F58 h250_58 => ?_
 refine wl_pq F58 (ex_bin (vy := .nilIface) (v := (.bool (decide (d.segs.length ≠ 0)))) h250_58 rfl (er_eq hE _)) fun a59 u59 F59 h251_59 => ?_
 refine wl_pq F59 (ex_as h251_59) fun a60 u60 F60 h4_60 => ?_
 refine wl_pq F60 (ex_as (v := (.bool true)) rfl) fun a61 u61 F61 h5_61 => ?_
 change Code.wp _ _ _ _ _
 refine wp_ret ?_
 try simp only [Exit.then, Exit.inBlock]
 exact bodyPost_ret (v := .tuple #[(.bool (decide (d.segs.length ≠ 0))), (.bool true)]) ((results_tmp2 rfl _ _ _).trans (by rw [(u61.w h4_60), h5_61])) F61.defers ⟨rfl, hS, KK⟩
theorem step_9 {d : WinD} {k B b num : Nat} {s : SegD} {kv mv : Value} {w0 : World} (hO : d.Ok k) (hk9 : k < 900) (H_0 : PlS w0 B b d) (he : s.e < 160) (hnum : num ≤ 255) (ks_0 : KeySl w0 kv s.key) (ms_0 : MapSl w0 mv s.map) : Calls Tryd.prog 28 #[pt b, .agg #[(.int .i64 9), (.int .u64 0), (.string s.title), (.string s.uri), (.float .f64 (fb s.e)), (.int .i64 s.li), (.int .i64 s.off), kv, mv, (.slice none 0 0), (.bool s.disc), (.string s.date), (.int .i64 num)]] w0 fun e w' => e = .returned (.tuple #[.bool (decide (d.segs.length ≠ 0)), .bool true]) ∧ PlS w' B b (d.discL) ∧ Kt B DP w0 w' := by
 have hw0 := H_0.hw_
 have hk : k ≤ 900 := Nat.le_of_lt hk9
 refine calls_of_wp Tryd.func28 rfl ?_
 generalize hA : Act.mk _ _ = a0
 have F0 : Fz 252 a0 := by subst hA; exact ⟨by simp [Tryd.ntmps28], rfl⟩
 have h0_0 : a0.tmps.getD 0 undef = (.pointer (some ⟨b, 0, none⟩)) := by subst hA; exact fr_arg rfl
 have h1_0 : a0.tmps.getD 1 undef = (.agg #[(.int .i64 9), (.int .u64 0), (.string s.title), (.string s.uri), (.float .f64 (fb s.e)), (.int .i64 s.li), (.int .i64 s.off), kv, mv, (.slice none 0 0), (.bool s.disc), (.string s.date), (.int .i64 num)]) := by subst hA; exact fr_arg rfl
 have Q_0 := grown_refl w0 none
 refine wp_sr ?_
 obtain ⟨g3, hg3⟩ : ∃ g, w0.heap.size = g := ⟨_, rfl⟩
 obtain ⟨w1, hr1, B3_1, G1, hs1⟩ := al_run (op := Instr.box 44 (.agg #[(.int .i64 9), (.int .u64 0), (.string s.title), (.string s.uri), (.float .f64 (fb s.e)), (.int .i64 s.li), (.int .i64 s.off), kv, mv, (.slice none 0 0), (.bool s.disc), (.string s.date), (.int .i64 num)])) (T := 44) (cs := #[(.int .i64 9), (.int .u64 0), (.string s.title), (.string s.uri), (.float .f64 (fb s.e)), (.int .i64 s.li), (.int .i64 s.off), kv, mv, (.slice none 0 0), (.bool s.disc), (.string s.date), (.int .i64 num)]) hg3 (fun _ => by kernel_rfl)
 have Q_1 := grown_trans Q_0 G1
 have ks_1 := ks_0.gn G1
 have ms_1 := ms_0.gn G1
 have H_1 := H_0.gn G1
 refine wl_pq F0 (ex_bx h1_0 hr1) fun a1 u1 F1 (h3_1 : a1.tmps.getD 3 undef = (.pointer (some ⟨g3, 0, none⟩))) => ?_
 clear Q_0 H_0
 refine wl_pq F1 (ex_as (v := (.bool false)) rfl) fun a2 u2 F2 h4_2 => ?_
 refine wl_pq F2 (ex_as (v := (.bool false)) rfl) fun a3 u3 F3 h5_3 => ?_
 change Code.wp _ _ _ _ _
 refine wp_sr ?_
 refine wl_pq F3 (ex_fb 1 (u3.w (u2.w h3_1))) fun a4 u4 F4 h8_4 => ?_
 refine wl_pq F4 (ex_lda h8_4 (ld_agg (n := 11) (o := 1) (xs := #[(.int .u64 0), (.string s.title), (.string s.uri), (.float .f64 (fb s.e)), (.int .i64 s.li), (.int .i64 s.off), kv, mv, (.slice none 0 0), (.bool s.disc), (.string s.date)]) (fun _ => by kernel_rfl) (fun _ => by kernel_rfl) B3_1 rfl (fun k hk => by rcases k with _ | _ | _ | _ | _ | _ | _ | _ | _ | _ | _ | k <;> first | rfl | omega))) fun a5 u5 F5 (h9_5 : a5.tmps.getD 9 undef = (.agg #[(.int .u64 0), (.string s.title), (.string s.uri), (.float .f64 (fb s.e)), (.int .i64 s.li), (.int .i64 s.off), kv, mv, (.slice none 0 0), (.bool s.disc), (.string s.date)])) => ?_
 refine wl_cl (args := #[(.agg #[(.int .u64 0), (.string s.title), (.string s.uri), (.float .f64 (fb s.e)), (.int .i64 s.li), (.int .i64 s.off), kv, mv, (.slice none 0 0), (.bool s.disc), (.string s.date)])]) (R := fun v w' => ∃ q kp mp, v = pt q ∧ Blk w' q 95 (segC 0 s kp mp) ∧ KeyP w' w1.heap.size kp s.key ∧ MapP w' w1.heap.size mp s.map ∧ w1.heap.size ≤ q ∧ w1.grownBy w' none) (ex_cl (fun _ _ => by kernel_rfl) (arg1 h9_5)) ((segmentTo_any ks_1 ms_1).mono fun _ _ ⟨q, kp, mp, h, r⟩ => ⟨_, h, q, kp, mp, rfl, r⟩) F5.l ?_
 rintro v w2 ⟨q, kq, mq, rfl, Bq_2, kq0, mq0, hq, G2⟩
 have B3_2 := B3_1.gn G2
 have Q_2 := grown_trans Q_1 G2
 have ks_2 := ks_1.gn G2
 have ms_2 := ms_1.gn G2
 have H_2 := H_1.toQ G2 hq
 have hBq : B ≤ q := Nat.le_trans H_1.hw_ hq
 have kq_2 := kq0.lo' H_1.hw_
 have mq_2 := mq0.lo' H_1.hw_
 intro a6 u6 h10_6
 have F6 := F5.pt u6
 clear Q_1 H_1
 refine wl_pq F6 (ex_as h10_6) fun a7 u7 F7 h6_7 => ?_
 change Code.wp _ _ _ _ _
 refine wp_seq ?_
 refine wp_sr ?_
 refine wl_pq F7 (ex_mv h6_7) fun a8 u8 F8 h11_8 => ?_
 refine wl_pq F8 (ex_nil h11_8) fun a9 u9 F9 h12_9 => ?_
 refine wl_pq F9 (ex_fb 3 h12_9) fun a10 u10 F10 h13_10 => ?_
 refine wl_pq F10 (ex_le (v := (.float .f64 (fb s.e))) h13_10 (Bq_2.cell 3)) fun a11 u11 F11 h14_11 => ?_
 refine wl_cl (args := #[(.float .f64 (fb s.e))]) (R := fun v w' => v = (.bool true) ∧ w2 = w') (ex_cl (fun _ _ => by kernel_rfl) (arg1 h14_11)) ((plain_any s.e (by omega) _).mono fun _ _ h => ⟨_, h.1, rfl, h.2⟩) F11.l ?_
 rintro v w' ⟨rfl, rfl⟩
 intro a12 u12 h15_12
 have F12 := F11.pt u12
 refine wl_pq F12 (ex_un (vx := (.bool true)) (v := (.bool false)) h15_12 rfl) fun a13 u13 F13 h16_13 => ?_
 refine wl_pq F13 (ex_mv h16_13) fun a14 u14 F14 h17_14 => ?_
 have h3_14 := u14.w (u13.w (u12.w (u11.w (u10.w (u9.w (u8.w (u7.w (u6.w (u5.w (u4.w (u3.w (u2.w h3_1))))))))))))
 refine wl_gq F14 (yl (e := 17) rfl h17_14) (ex_fb 12 h3_14) fun a15 u15 F15 h18_15 => ?_
 refine wl_gq F15 (yl (e := 17) rfl (u15.w h17_14)) (ex_le (v := (.int .i64 num)) h18_15 (B3_2.cell 12)) fun a16 u16 F16 h19_16 => ?_
 refine wl_gq F16 (yl (e := 17) rfl (u16.w (u15.w h17_14))) (ex_bin (vy := (.int .i64 0)) (v := (.bool false)) h19_16 rfl ((bo_ltn num 0 _).trans (by rw [decide_eq_false (by omega)]))) fun a17 u17 F17 h20_17 => ?_
 have h17_17 := u17.w (u16.w (u15.w h17_14))
 refine wl_pq F17 (ex_pick (q := false) h17_17 h20_17) fun a18 u18 F18 h21_18 => ?_
 refine wl_pq F18 (ex_mv h21_18) fun a19 u19 F19 h22_19 => ?_
 have h3_19 := u19.w (u18.w (u17.w (u16.w (u15.w h3_14))))
 refine wl_gq F19 (yl (e := 22) rfl h22_19) (ex_fb 12 h3_19) fun a20 u20 F20 h23_20 => ?_
 refine wl_gq F20 (yl (e := 22) rfl (u20.w h22_19)) (ex_le (v := (.int .i64 num)) h23_20 (B3_2.cell 12)) fun a21 u21 F21 h24_21 => ?_
 refine wl_gq F21 (yl (e := 22) rfl (u21.w (u20.w h22_19))) (ex_bin (vy := (.int .i64 255)) (v := (.bool false)) h24_21 rfl ((bo_gtn num 255 _).trans (by rw [decide_eq_false (by omega)]))) fun a22 u22 F22 h25_22 => ?_
 have h22_22 := u22.w (u21.w (u20.w h22_19))
 refine wl_pq F22 (ex_pick (q := false) h22_22 h25_22) fun a23 u23 F23 h26_23 => ?_
 change Code.wp _ _ _ _ _
 refine wp_cond_false h26_23 ?_
 refine wp_skip ?_
 change Code.wp _ _ _ _ _
 refine wp_sr ?_
 refine wl_pq F23 (ex_as (v := .nilIface) rfl) fun a24 u24 F24 h7_24 => ?_
 change Code.wp _ _ _ _ _
 refine wp_seq ?_
 refine wp_sr ?_
 have h3_24 := u24.w (u23.w (u22.w (u21.w (u20.w h3_19))))
 refine wl_pq F24 (ex_fb 0 h3_24) fun a25 u25 F25 h27_25 => ?_
 refine wl_pq F25 (ex_le (v := (.int .i64 9)) h27_25 (B3_2.cell 0)) fun a26 u26 F26 h28_26 => ?_
 change Code.wp _ _ _ _ _
 refine wp_block ?_
 refine wp_sr ?_
 refine wl_pq F26 (ex_bin (vy := (.int .i64 0)) (v := (.bool false)) h28_26 rfl (by kernel_rfl)) fun a27 u27 F27 h30_27 => ?_
 refine wl_pq F27 (ex_as h30_27) fun a28 u28 F28 h29_28 => ?_
 change Code.wp _ _ _ _ _
 refine wp_cond_false h29_28 ?_
 refine wp_sr ?_
 refine wl_pq F28 (ex_bin (vy := (.int .i64 1)) (v := (.bool false)) (u28.w (u27.w h28_26)) rfl (by kernel_rfl)) fun a29 u29 F29 h35_29 => ?_
 refine wl_pq F29 (ex_as h35_29) fun a30 u30 F30 h34_30 => ?_
 change Code.wp _ _ _ _ _
 refine wp_cond_false h34_30 ?_
 refine wp_sr ?_
 have h28_30 := u30.w (u29.w (u28.w (u27.w h28_26)))
 refine wl_pq F30 (ex_bin (vy := (.int .i64 2)) (v := (.bool false)) h28_30 rfl (by kernel_rfl)) fun a31 u31 F31 h39_31 => ?_
 refine wl_pq F31 (ex_as h39_31) fun a32 u32 F32 h38_32 => ?_
 change Code.wp _ _ _ _ _
 refine wp_cond_false h38_32 ?_
 refine wp_sr ?_
 refine wl_pq F32 (ex_bin (vy := (.int .i64 3)) (v := (.bool false)) (u32.w (u31.w h28_30)) rfl (by kernel_rfl)) fun a33 u33 F33 h55_33 => ?_
 refine wl_pq F33 (ex_as h55_33) fun a34 u34 F34 h54_34 => ?_
 change Code.wp _ _ _ _ _
 refine wp_cond_false h54_34 ?_
 refine wp_sr ?_
 have h28_34 := u34.w (u33.w (u32.w (u31.w h28_30)))
 refine wl_pq F34 (ex_bin (vy := (.int .i64 4)) (v := (.bool false)) h28_34 rfl (by kernel_rfl)) fun a35 u35 F35 h59_35 => ?_
 refine wl_pq F35 (ex_as h59_35) fun a36 u36 F36 h58_36 => ?_
 change Code.wp _ _ _ _ _
 refine wp_cond_false h58_36 ?_
 refine wp_seq ?_
 refine wp_sr ?_
 refine wl_pq F36 (ex_bin (vy := (.int .i64 5)) (v := (.bool false)) (u36.w (u35.w h28_34)) rfl (by kernel_rfl)) fun a37 u37 F37 h66_37 => ?_
 refine wl_pq F37 (ex_as h66_37) fun a38 u38 F38 h65_38 => ?_
 change Code.wp _ _ _ _ _
 refine wp_cond_false h65_38 ?_
 refine rg_list ?_
 have h28_38 := u38.w (u37.w (u36.w (u35.w h28_34)))
 refine wl_pq F38 (ex_bin (vy := (.int .i64 11)) (v := (.bool false)) h28_38 rfl (by kernel_rfl)) fun a39 u39 F39 h67_39 => ?_
 refine wl_pq F39 (ex_as h67_39) fun a40 u40 F40 h65_40 => ?_
 change Code.wp _ _ _ _ _
 refine wp_cond_false h65_40 ?_
 refine wp_seq ?_
 refine wp_sr ?_
 refine wl_pq F40 (ex_bin (vy := (.int .i64 6)) (v := (.bool false)) (u40.w (u39.w h28_38)) rfl (by kernel_rfl)) fun a41 u41 F41 h151_41 => ?_
 refine wl_pq F41 (ex_as h151_41) fun a42 u42 F42 h150_42 => ?_
 change Code.wp _ _ _ _ _
 refine wp_cond_false h150_42 ?_
 refine rg_list ?_
 have h28_42 := u42.w (u41.w (u40.w (u39.w h28_38)))
 refine wl_pq F42 (ex_bin (vy := (.int .i64 12)) (v := (.bool false)) h28_42 rfl (by kernel_rfl)) fun a43 u43 F43 h152_43 => ?_
 refine wl_pq F43 (ex_as h152_43) fun a44 u44 F44 h150_44 => ?_
 change Code.wp _ _ _ _ _
 refine wp_cond_false h150_44 ?_
 refine wp_sr ?_
 refine wl_pq F44 (ex_bin (vy := (.int .i64 7)) (v := (.bool false)) (u44.w (u43.w h28_42)) rfl (by kernel_rfl)) fun a45 u45 F45 h208_45 => ?_
 refine wl_pq F45 (ex_as h208_45) fun a46 u46 F46 h207_46 => ?_
 change Code.wp _ _ _ _ _
 refine wp_cond_false h207_46 ?_
 refine wp_sr ?_
 have h28_46 := u46.w (u45.w (u44.w (u43.w h28_42)))
 refine wl_pq F46 (ex_bin (vy := (.int .i64 8)) (v := (.bool false)) h28_46 rfl (by kernel_rfl)) fun a47 u47 F47 h220_47 => ?_
 refine wl_pq F47 (ex_as h220_47) fun a48 u48 F48 h219_48 => ?_
 change Code.wp _ _ _ _ _
 refine wp_cond_false h219_48 ?_
 refine wp_sr ?_
 refine wl_pq F48 (ex_bin (vy := (.int .i64 9)) (v := (.bool true)) (u48.w (u47.w h28_46)) rfl (by kernel_rfl)) fun a49 u49 F49 h228_49 => ?_
 refine wl_pq F49 (ex_as h228_49) fun a50 u50 F50 h227_50 => ?_
 change Code.wp _ _ _ _ _
 refine wp_cond_true h227_50 ?_
 refine rg_list ?_
 have h0_50 := u50.w (u49.w (u48.w (u47.w (u46.w (u45.w (u44.w (u43.w (u42.w (u41.w (u40.w (u39.w (u38.w (u37.w (u36.w (u35.w (u34.w (u33.w (u32.w (u31.w (u30.w (u29.w (u28.w (u27.w (u26.w (u25.w (u24.w (u23.w (u22.w (u21.w (u20.w (u19.w (u18.w (u17.w (u16.w (u15.w (u14.w (u13.w (u12.w (u11.w (u10.w (u9.w (u8.w (u7.w (u6.w (u5.w (u4.w (u3.w (u2.w (u1.w h0_0)))))))))))))))))))))))))))))))))))))))))))))))))
 refine wl_pq F50 (ex_mv h0_50) fun a51 u51 F51 h229_51 => ?_
 refine wl_cl (args := #[(.pointer (some ⟨b, 0, none⟩))]) (R := fun v w' => Er v (decide (d.segs.length ≠ 0)) ∧ PlS w' B b (d.discL) ∧ Kt B DP w2 w') (ex_cl (fun _ _ => by kernel_rfl) (arg1 h229_51)) ((sdisc hO hk H_2.toS).mono fun _ _ h => h) F51.l ?_
 rintro vr w3 ⟨hE, hS, K3⟩
 have KK := ((Kt.refl B DP w0).nw hw0 Q_2).trans K3
 intro a52 u52 h230_52
 have F52 := F51.pt u52
 refine wl_pq F52 (ex_as h230_52) fun a53 u53 F53 h7_53 => ?_
 change Code.wp _ _ _ _ _
 refine wp_sr ?_
 refine wl_pq F53 (ex_mv h7_53) fun a54 u54 F54 h250_54 => ?_
 refine wl_pq F54 (ex_bin (vy := .nilIface) (v := (.bool (decide (d.segs.length ≠ 0)))) h250_54 rfl (er_eq hE _)) fun a55 u55 F55 h251_55 => ?_
 refine wl_pq F55 (ex_as h251_55) fun a56 u56 F56 h4_56 => ?_
 refine wl_pq F56 (ex_as (v := (.bool true)) rfl) fun a57 u57 F57 h5_57 => ?_
 change Code.wp _ _ _ _ _
 refine wp_ret ?_
 try simp only [Exit.then, Exit.inBlock]
 exact bodyPost_ret (v := .tuple #[(.bool (decide (d.segs.length ≠ 0))), (.bool true)]) ((results_tmp2 rfl _ _ _).trans (by rw [(u57.w h4_56), h5_57])) F57.defers ⟨rfl, hS, KK⟩
theorem step_10 {d : WinD} {k B b num : Nat} {s : SegD} {kv mv : Value} {w0 : World} (hO : d.Ok k) (hk9 : k < 900) (H_0 : PlS w0 B b d) (he : s.e < 160) (hnum : num ≤ 255) (ks_0 : KeySl w0 kv s.key) (ms_0 : MapSl w0 mv s.map) : Calls Tryd.prog 28 #[pt b, .agg #[(.int .i64 10), (.int .u64 0), (.string s.title), (.string s.uri), (.float .f64 (fb s.e)), (.int .i64 s.li), (.int .i64 s.off), kv, mv, (.slice none 0 0), (.bool s.disc), (.string s.date), (.int .i64 num)]] w0 fun e w' => e = .returned (.tuple #[.bool (decide (d.segs.length ≠ 0)), .bool true]) ∧ PlS w' B b (d.dateL s.date) ∧ Kt B DP w0 w' := by
 have hw0 := H_0.hw_
 have hk : k ≤ 900 := Nat.le_of_lt hk9
 refine calls_of_wp Tryd.func28 rfl ?_
 generalize hA : Act.mk _ _ = a0
 have F0 : Fz 252 a0 := by subst hA; exact ⟨by simp [Tryd.ntmps28], rfl⟩
 have h0_0 : a0.tmps.getD 0 undef = (.pointer (some ⟨b, 0, none⟩)) := by subst hA; exact fr_arg rfl
 have h1_0 : a0.tmps.getD 1 undef = (.agg #[(.int .i64 10), (.int .u64 0), (.string s.title), (.string s.uri), (.float .f64 (fb s.e)), (.int .i64 s.li), (.int .i64 s.off), kv, mv, (.slice none 0 0), (.bool s.disc), (.string s.date), (.int .i64 num)]) := by subst hA; exact fr_arg rfl
 have Q_0 := grown_refl w0 none
 refine wp_sr ?_
 obtain ⟨g3, hg3⟩ : ∃ g, w0.heap.size = g := ⟨_, rfl⟩
 obtain ⟨w1, hr1, B3_1, G1, hs1⟩ := al_run (op := Instr.box 44 (.agg #[(.int .i64 10), (.int .u64 0), (.string s.title), (.string s.uri), (.float .f64 (fb s.e)), (.int .i64 s.li), (.int .i64 s.off), kv, mv, (.slice none 0 0), (.bool s.disc), (.string s.date), (.int .i64 num)])) (T := 44) (cs := #[(.int .i64 10), (.int .u64 0), (.string s.title), (.string s.uri), (.float .f64 (fb s.e)), (.int .i64 s.li), (.int .i64 s.off), kv, mv, (.slice none 0 0), (.bool s.disc), (.string s.date), (.int .i64 num)]) hg3 (fun _ => by kernel_rfl)
 have Q_1 := grown_trans Q_0 G1
 have ks_1 := ks_0.gn G1
 have ms_1 := ms_0.gn G1
 have H_1 := H_0.gn G1
 refine wl_pq F0 (ex_bx h1_0 hr1) fun a1 u1 F1 (h3_1 : a1.tmps.getD 3 undef = (.pointer (some ⟨g3, 0, none⟩))) => ?_
 clear Q_0 H_0
 refine wl_pq F1 (ex_as (v := (.bool false)) rfl) fun a2 u2 F2 h4_2 => ?_
 refine wl_pq F2 (ex_as (v := (.bool false)) rfl) fun a3 u3 F3 h5_3 => ?_
 change Code.wp _ _ _ _ _
 refine wp_sr ?_
 refine wl_pq F3 (ex_fb 1 (u3.w (u2.w h3_1))) fun a4 u4 F4 h8_4 => ?_
 refine wl_pq F4 (ex_lda h8_4 (ld_agg (n := 11) (o := 1) (xs := #[(.int .u64 0), (.string s.title), (.string s.uri), (.float .f64 (fb s.e)), (.int .i64 s.li), (.int .i64 s.off), kv, mv, (.slice none 0 0), (.bool s.disc), (.string s.date)]) (fun _ => by kernel_rfl) (fun _ => by kernel_rfl) B3_1 rfl (fun k hk => by rcases k with _ | _ | _ | _ | _ | _ | _ | _ | _ | _ | _ | k <;> first | rfl | omega))) fun a5 u5 F5 (h9_5 : a5.tmps.getD 9 undef = (.agg #[(.int .u64 0), (.string s.title), (.string s.uri), (.float .f64 (fb s.e)), (.int .i64 s.li), (.int .i64 s.off), kv, mv, (.slice none 0 0), (.bool s.disc), (.string s.date)])) => ?_
 refine wl_cl (args := #[(.agg #[(.int .u64 0), (.string s.title), (.string s.uri), (.float .f64 (fb s.e)), (.int .i64 s.li), (.int .i64 s.off), kv, mv, (.slice none 0 0), (.bool s.disc), (.string s.date)])]) (R := fun v w' => ∃ q kp mp, v = pt q ∧ Blk w' q 95 (segC 0 s kp mp) ∧ KeyP w' w1.heap.size kp s.key ∧ MapP w' w1.heap.size mp s.map ∧ w1.heap.size ≤ q ∧ w1.grownBy w' none) (ex_cl (fun _ _ => by kernel_rfl) (arg1 h9_5)) ((segmentTo_any ks_1 ms_1).mono fun _ _ ⟨q, kp, mp, h, r⟩ => ⟨_, h, q, kp, mp, rfl, r⟩) F5.l ?_
 rintro v w2 ⟨q, kq, mq, rfl, Bq_2, kq0, mq0, hq, G2⟩
 have B3_2 := B3_1.gn G2
 have Q_2 := grown_trans Q_1 G2
 have ks_2 := ks_1.gn G2
 have ms_2 := ms_1.gn G2
 have H_2 := H_1.toQ G2 hq
 have hBq : B ≤ q := Nat.le_trans H_1.hw_ hq
 have kq_2 := kq0.lo' H_1.hw_
 have mq_2 := mq0.lo' H_1.hw_
 intro a6 u6 h10_6
 have F6 := F5.pt u6
 clear Q_1 H_1
 refine wl_pq F6 (ex_as h10_6) fun a7 u7 F7 h6_7 => ?_
 change Code.wp _ _ _ _ _
 refine wp_seq ?_
 refine wp_sr ?_
 refine wl_pq F7 (ex_mv h6_7) fun a8 u8 F8 h11_8 => ?_
 refine wl_pq F8 (ex_nil h11_8) fun a9 u9 F9 h12_9 => ?_
 refine wl_pq F9 (ex_fb 3 h12_9) fun a10 u10 F10 h13_10 => ?_
 refine wl_pq F10 (ex_le (v := (.float .f64 (fb s.e))) h13_10 (Bq_2.cell 3)) fun a11 u11 F11 h14_11 => ?_
 refine wl_cl (args := #[(.float .f64 (fb s.e))]) (R := fun v w' => v = (.bool true) ∧ w2 = w') (ex_cl (fun _ _ => by kernel_rfl) (arg1 h14_11)) ((plain_any s.e (by omega) _).mono fun _ _ h => ⟨_, h.1, rfl, h.2⟩) F11.l ?_
 rintro v w' ⟨rfl, rfl⟩
 intro a12 u12 h15_12
 have F12 := F11.pt u12
 refine wl_pq F12 (ex_un (vx := (.bool true)) (v := (.bool false)) h15_12 rfl) fun a13 u13 F13 h16_13 => ?_
 refine wl_pq F13 (ex_mv h16_13) fun a14 u14 F14 h17_14 => ?_
 have h3_14 := u14.w (u13.w (u12.w (u11.w (u10.w (u9.w (u8.w (u7.w (u6.w (u5.w (u4.w (u3.w (u2.w h3_1))))))))))))
 refine wl_gq F14 (yl (e := 17) rfl h17_14) (ex_fb 12 h3_14) fun a15 u15 F15 h18_15 => ?_
 refine wl_gq F15 (yl (e := 17) rfl (u15.w h17_14)) (ex_le (v := (.int .i64 num)) h18_15 (B3_2.cell 12)) fun a16 u16 F16 h19_16 => ?_
 refine wl_gq F16 (yl (e := 17) rfl (u16.w (u15.w h17_14))) (ex_bin (vy := (.int .i64 0)) (v := (.bool false)) h19_16 rfl ((bo_ltn num 0 _).trans (by rw [decide_eq_false (by omega)]))) fun a17 u17 F17 h20_17 => ?_
 have h17_17 := u17.w (u16.w (u15.w h17_14))
 refine wl_pq F17 (ex_pick (q := false) h17_17 h20_17) fun a18 u18 F18 h21_18 => ?_
 refine wl_pq F18 (ex_mv h21_18) fun a19 u19 F19 h22_19 => ?_
 have h3_19 := u19.w (u18.w (u17.w (u16.w (u15.w h3_14))))
 refine wl_gq F19 (yl (e := 22) rfl h22_19) (ex_fb 12 h3_19) fun a20 u20 F20 h23_20 => ?_
 refine wl_gq F20 (yl (e := 22) rfl (u20.w h22_19)) (ex_le (v := (.int .i64 num)) h23_20 (B3_2.cell 12)) fun a21 u21 F21 h24_21 => ?_
 refine wl_gq F21 (yl (e := 22) rfl (u21.w (u20.w h22_19))) (ex_bin (vy := (.int .i64 255)) (v := (.bool false)) h24_21 rfl ((bo_gtn num 255 _).trans (by rw [decide_eq_false (by omega)]))) fun a22 u22 F22 h25_22 => ?_
 have h22_22 := u22.w (u21.w (u20.w h22_19))
 refine wl_pq F22 (ex_pick (q := false) h22_22 h25_22) fun a23 u23 F23 h26_23 => ?_
 change Code.wp _ _ _ _ _
 refine wp_cond_false h26_23 ?_
 refine wp_skip ?_
 change Code.wp _ _ _ _ _
 refine wp_sr ?_
 refine wl_pq F23 (ex_as (v := .nilIface) rfl) fun a24 u24 F24 h7_24 => ?_
 change Code.wp _ _ _ _ _
 refine wp_seq ?_
 refine wp_sr ?_
 have h3_24 := u24.w (u23.w (u22.w (u21.w (u20.w h3_19))))
 refine wl_pq F24 (ex_fb 0 h3_24) fun a25 u25 F25 h27_25 => ?_
 refine wl_pq F25 (ex_le (v := (.int .i64 10)) h27_25 (B3_2.cell 0)) fun a26 u26 F26 h28_26 => ?_
 change Code.wp _ _ _ _ _
 refine wp_block ?_
 refine wp_sr ?_
 refine wl_pq F26 (ex_bin (vy := (.int .i64 0)) (v := (.bool false)) h28_26 rfl (by kernel_rfl)) fun a27 u27 F27 h30_27 => ?_
 refine wl_pq F27 (ex_as h30_27) fun a28 u28 F28 h29_28 => ?_
 change Code.wp _ _ _ _ _
 refine wp_cond_false h29_28 ?_
 refine wp_sr ?_
 refine wl_pq F28 (ex_bin (vy := (.int .i64 1)) (v := (.bool false)) (u28.w (u27.w h28_26)) rfl (by kernel_rfl)) fun a29 u29 F29 h35_29 => ?_
 refine wl_pq F29 (ex_as h35_29) fun a30 u30 F30 h34_30 => ?_
 change Code.wp _ _ _ _ _
 refine wp_cond_false h34_30 ?_
 refine wp_sr ?_
 have h28_30 := u30.w (u29.w (u28.w (u27.w h28_26)))
 refine wl_pq F30 (ex_bin (vy := (.int .i64 2)) (v := (.bool false)) h28_30 rfl (by kernel_rfl)) fun a31 u31 F31 h39_31 => ?_
 refine wl_pq F31 (ex_as h39_31) fun a32 u32 F32 h38_32 => ?_
 change Code.wp _ _ _ _ _
 refine wp_cond_false h38_32 ?_
 refine wp_sr ?_
 refine wl_pq F32 (ex_bin (vy := (.int .i64 3)) (v := (.bool false)) (u32.w (u31.w h28_30)) rfl (by kernel_rfl)) fun a33 u33 F33 h55_33 => ?_
 refine wl_pq F33 (ex_as h55_33) fun a34 u34 F34 h54_34 => ?_
 change Code.wp _ _ _ _ _
 refine wp_cond_false h54_34 ?_
 refine wp_sr ?_
 have h28_34 := u34.w (u33.w (u32.w (u31.w h28_30)))
 refine wl_pq F34 (ex_bin (vy := (.int .i64 4)) (v := (.bool false)) h28_34 rfl (by kernel_rfl)) fun a35 u35 F35 h59_35 => ?_
 refine wl_pq F35 (ex_as h59_35) fun a36 u36 F36 h58_36 => ?_
 change Code.wp _ _ _ _ _
 refine wp_cond_false h58_36 ?_
 refine wp_seq ?_
 refine wp_sr ?_
 refine wl_pq F36 (ex_bin (vy := (.int .i64 5)) (v := (.bool false)) (u36.w (u35.w h28_34)) rfl (by kernel_rfl)) fun a37 u37 F37 h66_37 => ?_
 refine wl_pq F37 (ex_as h66_37) fun a38 u38 F38 h65_38 => ?_
 change Code.wp _ _ _ _ _
 refine wp_cond_false h65_38 ?_
 refine rg_list ?_
 have h28_38 := u38.w (u37.w (u36.w (u35.w h28_34)))
 refine wl_pq F38 (ex_bin (vy := (.int .i64 11)) (v := (.bool false)) h28_38 rfl (by kernel_rfl)) fun a39 u39 F39 h67_39 => ?_
 refine wl_pq F39 (ex_as h67_39) fun a40 u40 F40 h65_40 => ?_
 change Code.wp _ _ _ _ _
 refine wp_cond_false h65_40 ?_
 refine wp_seq ?_
 refine wp_sr ?_
 refine wl_pq F40 (ex_bin (vy := (.int .i64 6)) (v := (.bool false)) (u40.w (u39.w h28_38)) rfl (by kernel_rfl)) fun a41 u41 F41 h151_41 => ?_
 refine wl_pq F41 (ex_as h151_41) fun a42 u42 F42 h150_42 => ?_
 change Code.wp _ _ _ _ _
 refine wp_cond_false h150_42 ?_
 refine rg_list ?_
 have h28_42 := u42.w (u41.w (u40.w (u39.w h28_38)))
 refine wl_pq F42 (ex_bin (vy := (.int .i64 12)) (v := (.bool false)) h28_42 rfl (by kernel_rfl)) fun a43 u43 F43 h152_43 => ?_
 refine wl_pq F43 (ex_as h152_43) fun a44 u44 F44 h150_44 => ?_
 change Code.wp _ _ _ _ _
 refine wp_cond_false h150_44 ?_
 refine wp_sr ?_
 refine wl_pq F44 (ex_bin (vy := (.int .i64 7)) (v := (.bool false)) (u44.w (u43.w h28_42)) rfl (by kernel_rfl)) fun a45 u45 F45 h208_45 => ?_
 refine wl_pq F45 (ex_as h208_45) fun a46 u46 F46 h207_46 => ?_
 change Code.wp _ _ _ _ _
 refine wp_cond_false h207_46 ?_
 refine wp_sr ?_
 have h28_46 := u46.w (u45.w (u44.w (u43.w h28_42)))
 refine wl_pq F46 (ex_bin (vy := (.int .i64 8)) (v := (.bool false)) h28_46 rfl (by kernel_rfl)) fun a47 u47 F47 h220_47 => ?_
 refine wl_pq F47 (ex_as h220_47) fun a48 u48 F48 h219_48 => ?_
 change Code.wp _ _ _ _ _
 refine wp_cond_false h219_48 ?_
 refine wp_sr ?_
 refine wl_pq F48 (ex_bin (vy := (.int .i64 9)) (v := (.bool false)) (u48.w (u47.w h28_46)) rfl (by kernel_rfl)) fun a49 u49 F49 h228_49 => ?_
 refine wl_pq F49 (ex_as h228_49) fun a50 u50 F50 h227_50 => ?_
 change Code.wp _ _ _ _ _
 refine wp_cond_false h227_50 ?_
 refine wp_sr ?_
 have h28_50 := u50.w (u49.w (u48.w (u47.w h28_46)))
 refine wl_pq F50 (ex_bin (vy := (.int .i64 10)) (v := (.bool true)) h28_50 rfl (by kernel_rfl)) fun a51 u51 F51 h232_51 => ?_
 refine wl_pq F51 (ex_as h232_51) fun a52 u52 F52 h231_52 => ?_
 change Code.wp _ _ _ _ _
 refine wp_cond_true h231_52 ?_
 refine rg_list ?_
 have h0_52 := u52.w (u51.w (u50.w (u49.w (u48.w (u47.w (u46.w (u45.w (u44.w (u43.w (u42.w (u41.w (u40.w (u39.w (u38.w (u37.w (u36.w (u35.w (u34.w (u33.w (u32.w (u31.w (u30.w (u29.w (u28.w (u27.w (u26.w (u25.w (u24.w (u23.w (u22.w (u21.w (u20.w (u19.w (u18.w (u17.w (u16.w (u15.w (u14.w (u13.w (u12.w (u11.w (u10.w (u9.w (u8.w (u7.w (u6.w (u5.w (u4.w (u3.w (u2.w (u1.w h0_0)))))))))))))))))))))))))))))))))))))))))))))))))))
 refine wl_pq F52 (ex_mv h0_52) fun a53 u53 F53 h233_53 => ?_
 have h6_53 := u53.w (u52.w (u51.w (u50.w (u49.w (u48.w (u47.w (u46.w (u45.w (u44.w (u43.w (u42.w (u41.w (u40.w (u39.w (u38.w (u37.w (u36.w (u35.w (u34.w (u33.w (u32.w (u31.w (u30.w (u29.w (u28.w (u27.w (u26.w (u25.w (u24.w (u23.w (u22.w (u21.w (u20.w (u19.w (u18.w (u17.w (u16.w (u15.w (u14.w (u13.w (u12.w (u11.w (u10.w (u9.w (u8.w h6_7)))))))))))))))))))))))))))))))))))))))))))))
 refine wl_pq F53 (ex_mv h6_53) fun a54 u54 F54 h234_54 => ?_
 refine wl_pq F54 (ex_nil h234_54) fun a55 u55 F55 h235_55 => ?_
 refine wl_pq F55 (ex_fb 10 h235_55) fun a56 u56 F56 h236_56 => ?_
 refine wl_pq F56 (ex_le (v := (.string s.date)) h236_56 (Bq_2.cell 10)) fun a57 u57 F57 h237_57 => ?_
 have h233_57 := u57.w (u56.w (u55.w (u54.w h233_53)))
 refine wl_cl (args := #[(.pointer (some ⟨b, 0, none⟩)), (.string s.date)]) (R := fun v w' => Er v (decide (d.segs.length ≠ 0)) ∧ PlS w' B b (d.dateL s.date) ∧ Kt B DP w2 w') (ex_cl (fun _ _ => by kernel_rfl) (arg2 h233_57 h237_57)) ((sdate hO hk H_2.toS).mono fun _ _ h => h) F57.l ?_
 rintro vr w3 ⟨hE, hS, K3⟩
 have KK := ((Kt.refl B DP w0).nw hw0 Q_2).trans K3
 intro a58 u58 h238_58
 have F58 := F57.pt u58
 refine wl_pq F58 (ex_as h238_58) fun a59 u59 F59 h7_59 => ?_
 change Code.wp _ _ _ _ _
 refine wp_sr ?_
 refine wl_pq F59 (ex_mv h7_59) fun a60 u60 F60 h250_60 => ?_
 refine wl_pq F60 (ex_bin (vy := .nilIface) (v := (.bool (decide (d.segs.length ≠ 0)))) h250_60 rfl (er_eq hE _)) fun a61 u61 F61 h251_61 => ?_
 refine wl_pq F61 (ex_as h251_61) fun a62 u62 F62 h4_62 => ?_
 refine wl_pq F62 (ex_as (v := (.bool true)) rfl) fun a63 u63 F63 h5_63 => ?_
 change Code.wp _ _ _ _ _
 refine wp_ret ?_
 try simp only [Exit.then, Exit.inBlock]
 exact bodyPost_ret (v := .tuple #[(.bool (decide (d.segs.length ≠ 0))), (.bool true)]) ((results_tmp2 rfl _ _ _).trans (by rw [(u63.w h4_62), h5_63])) F63.defers ⟨rfl, hS, KK⟩
theorem step_13 {d : WinD} {k B b num : Nat} {s : SegD} {kv mv : Value} {w0 : World} (hO : d.Ok k) (hk9 : k < 900) (H_0 : PlS w0 B b d) (he : s.e < 160) (hnum : num ≤ 255) (ks_0 : KeySl w0 kv s.key) (ms_0 : MapSl w0 mv s.map) : Calls Tryd.prog 28 #[pt b, .agg #[(.int .i64 13), (.int .u64 0), (.string s.title), (.string s.uri), (.float .f64 (fb s.e)), (.int .i64 s.li), (.int .i64 s.off), kv, mv, (.slice none 0 0), (.bool s.disc), (.string s.date), (.int .i64 num)]] w0 fun e w' => e = .returned (.tuple #[.bool true, .bool true]) ∧ PlS w' B b (d.frm) ∧ Kt B DP w0 w' := by
 have hw0 := H_0.hw_
 have hk : k ≤ 900 := Nat.le_of_lt hk9
 refine calls_of_wp Tryd.func28 rfl ?_
 generalize hA : Act.mk _ _ = a0
 have F0 : Fz 252 a0 := by subst hA; exact ⟨by simp [Tryd.ntmps28], rfl⟩
 have h0_0 : a0.tmps.getD 0 undef = (.pointer (some ⟨b, 0, none⟩)) := by subst hA; exact fr_arg rfl
 have h1_0 : a0.tmps.getD 1 undef = (.agg #[(.int .i64 13), (.int .u64 0), (.string s.title), (.string s.uri), (.float .f64 (fb s.e)), (.int .i64 s.li), (.int .i64 s.off), kv, mv, (.slice none 0 0), (.bool s.disc), (.string s.date), (.int .i64 num)]) := by subst hA; exact fr_arg rfl
 have Q_0 := grown_refl w0 none
 refine wp_sr ?_
 obtain ⟨g3, hg3⟩ : ∃ g, w0.heap.size = g := ⟨_, rfl⟩
 obtain ⟨w1, hr1, B3_1, G1, hs1⟩ := al_run (op := Instr.box 44 (.agg #[(.int .i64 13), (.int .u64 0), (.string s.title), (.string s.uri), (.float .f64 (fb s.e)), (.int .i64 s.li), (.int .i64 s.off), kv, mv, (.slice none 0 0), (.bool s.disc), (.string s.date), (.int .i64 num)])) (T := 44) (cs := #[(.int .i64 13), (.int .u64 0), (.string s.title), (.string s.uri), (.float .f64 (fb s.e)), (.int .i64 s.li), (.int .i64 s.off), kv, mv, (.slice none 0 0), (.bool s.disc), (.string s.date), (.int .i64 num)]) hg3 (fun _ => by kernel_rfl)
 have Q_1 := grown_trans Q_0 G1
 have ks_1 := ks_0.gn G1
 have ms_1 := ms_0.gn G1
 have H_1 := H_0.gn G1
 refine wl_pq F0 (ex_bx h1_0 hr1) fun a1 u1 F1 (h3_1 : a1.tmps.getD 3 undef = (.pointer (some ⟨g3, 0, none⟩))) => ?_
 clear Q_0 H_0
 refine wl_pq F1 (ex_as (v := (.bool false)) rfl) fun a2 u2 F2 h4_2 => ?_
 refine wl_pq F2 (ex_as (v := (.bool false)) rfl) fun a3 u3 F3 h5_3 => ?_
 change Code.wp _ _ _ _ _
 refine wp_sr ?_
 refine wl_pq F3 (ex_fb 1 (u3.w (u2.w h3_1))) fun a4 u4 F4 h8_4 => ?_
 refine wl_pq F4 (ex_lda h8_4 (ld_agg (n := 11) (o := 1) (xs := #[(.int .u64 0), (.string s.title), (.string s.uri), (.float .f64 (fb s.e)), (.int .i64 s.li), (.int .i64 s.off), kv, mv, (.slice none 0 0), (.bool s.disc), (.string s.date)]) (fun _ => by kernel_rfl) (fun _ => by kernel_rfl) B3_1 rfl (fun k hk => by rcases k with _ | _ | _ | _ | _ | _ | _ | _ | _ | _ | _ | k <;> first | rfl | omega))) fun a5 u5 F5 (h9_5 : a5.tmps.getD 9 undef = (.agg #[(.int .u64 0), (.string s.title), (.string s.uri), (.float .f64 (fb s.e)), (.int .i64 s.li), (.int .i64 s.off), kv, mv, (.slice none 0 0), (.bool s.disc), (.string s.date)])) => ?_
 refine wl_cl (args := #[(.agg #[(.int .u64 0), (.string s.title), (.string s.uri), (.float .f64 (fb s.e)), (.int .i64 s.li), (.int .i64 s.off), kv, mv, (.slice none 0 0), (.bool s.disc), (.string s.date)])]) (R := fun v w' => ∃ q kp mp, v = pt q ∧ Blk w' q 95 (segC 0 s kp mp) ∧ KeyP w' w1.heap.size kp s.key ∧ MapP w' w1.heap.size mp s.map ∧ w1.heap.size ≤ q ∧ w1.grownBy w' none) (ex_cl (fun _ _ => by kernel_rfl) (arg1 h9_5)) ((segmentTo_any ks_1 ms_1).mono fun _ _ ⟨q, kp, mp, h, r⟩ => ⟨_, h, q, kp, mp, rfl, r⟩) F5.l ?_
 rintro v w2 ⟨q, kq, mq, rfl, Bq_2, kq0, mq0, hq, G2⟩
 have B3_2 := B3_1.gn G2
 have Q_2 := grown_trans Q_1 G2
 have ks_2 := ks_1.gn G2
 have ms_2 := ms_1.gn G2
 have H_2 := H_1.toQ G2 hq
 have hBq : B ≤ q := Nat.le_trans H_1.hw_ hq
 have kq_2 := kq0.lo' H_1.hw_
 have mq_2 := mq0.lo' H_1.hw_
 intro a6 u6 h10_6
 have F6 := F5.pt u6
 clear Q_1 H_1
 refine wl_pq F6 (ex_as h10_6) fun a7 u7 F7 h6_7 => ?_
 change Code.wp _ _ _ _ _
 refine wp_seq ?_
 refine wp_sr ?_
 refine wl_pq F7 (ex_mv h6_7) fun a8 u8 F8 h11_8 => ?_
 refine wl_pq F8 (ex_nil h11_8) fun a9 u9 F9 h12_9 => ?_
 refine wl_pq F9 (ex_fb 3 h12_9) fun a10 u10 F10 h13_10 => ?_
 refine wl_pq F10 (ex_le (v := (.float .f64 (fb s.e))) h13_10 (Bq_2.cell 3)) fun a11 u11 F11 h14_11 => ?_
 refine wl_cl (args := #[(.float .f64 (fb s.e))]) (R := fun v w' => v = (.bool true) ∧ w2 = w') (ex_cl (fun _ _ => by kernel_rfl) (arg1 h14_11)) ((plain_any s.e (by omega) _).mono fun _ _ h => ⟨_, h.1, rfl, h.2⟩) F11.l ?_
 rintro v w' ⟨rfl, rfl⟩
 intro a12 u12 h15_12
 have F12 := F11.pt u12
 refine wl_pq F12 (ex_un (vx := (.bool true)) (v := (.bool false)) h15_12 rfl) fun a13 u13 F13 h16_13 => ?_
 refine wl_pq F13 (ex_mv h16_13) fun a14 u14 F14 h17_14 => ?_
 have h3_14 := u14.w (u13.w (u12.w (u11.w (u10.w (u9.w (u8.w (u7.w (u6.w (u5.w (u4.w (u3.w (u2.w h3_1))))))))))))
 refine wl_gq F14 (yl (e := 17) rfl h17_14) (ex_fb 12 h3_14) fun a15 u15 F15 h18_15 => ?_
 refine wl_gq F15 (yl (e := 17) rfl (u15.w h17_14)) (ex_le (v := (.int .i64 num)) h18_15 (B3_2.cell 12)) fun a16 u16 F16 h19_16 => ?_
 refine wl_gq F16 (yl (e := 17) rfl (u16.w (u15.w h17_14))) (ex_bin (vy := (.int .i64 0)) (v := (.bool false)) h19_16 rfl ((bo_ltn num 0 _).trans (by rw [decide_eq_false (by omega)]))) fun a17 u17 F17 h20_17 => ?_
 have h17_17 := u17.w (u16.w (u15.w h17_14))
 refine wl_pq F17 (ex_pick (q := false) h17_17 h20_17) fun a18 u18 F18 h21_18 => ?_
 refine wl_pq F18 (ex_mv h21_18) fun a19 u19 F19 h22_19 => ?_
 have h3_19 := u19.w (u18.w (u17.w (u16.w (u15.w h3_14))))
 refine wl_gq F19 (yl (e := 22) rfl h22_19) (ex_fb 12 h3_19) fun a20 u20 F20 h23_20 => ?_
 refine wl_gq F20 (yl (e := 22) rfl (u20.w h22_19)) (ex_le (v := (.int .i64 num)) h23_20 (B3_2.cell 12)) fun a21 u21 F21 h24_21 => ?_
 refine wl_gq F21 (yl (e := 22) rfl (u21.w (u20.w h22_19))) (ex_bin (vy := (.int .i64 255)) (v := (.bool false)) h24_21 rfl ((bo_gtn num 255 _).trans (by rw [decide_eq_false (by omega)]))) fun a22 u22 F22 h25_22 => ?_
 have h22_22 := u22.w (u21.w (u20.w h22_19))
 refine wl_pq F22 (ex_pick (q := false) h22_22 h25_22) fun a23 u23 F23 h26_23 => ?_
 change Code.wp _ _ _ _ _
 refine wp_cond_false h26_23 ?_
 refine wp_skip ?_
 change Code.wp _ _ _ _ _
 refine wp_sr ?_
 refine wl_pq F23 (ex_as (v := .nilIface) rfl) fun a24 u24 F24 h7_24 => ?_
 change Code.wp _ _ _ _ _
 refine wp_seq ?_
 refine wp_sr ?_
 have h3_24 := u24.w (u23.w (u22.w (u21.w (u20.w h3_19))))
 refine wl_pq F24 (ex_fb 0 h3_24) fun a25 u25 F25 h27_25 => ?_
 refine wl_pq F25 (ex_le (v := (.int .i64 13)) h27_25 (B3_2.cell 0)) fun a26 u26 F26 h28_26 => ?_
 change Code.wp _ _ _ _ _
 refine wp_block ?_
 refine wp_sr ?_
 refine wl_pq F26 (ex_bin (vy := (.int .i64 0)) (v := (.bool false)) h28_26 rfl (by kernel_rfl)) fun a27 u27 F27 h30_27 => ?_
 refine wl_pq F27 (ex_as h30_27) fun a28 u28 F28 h29_28 => ?_
 change Code.wp _ _ _ _ _
 refine wp_cond_false h29_28 ?_
 refine wp_sr ?_
 refine wl_pq F28 (ex_bin (vy := (.int .i64 1)) (v := (.bool false)) (u28.w (u27.w h28_26)) rfl (by kernel_rfl)) fun a29 u29 F29 h35_29 => ?_
 refine wl_pq F29 (ex_as h35_29) fun a30 u30 F30 h34_30 => ?_
 change Code.wp _ _ _ _ _
 refine wp_cond_false h34_30 ?_
 refine wp_sr ?_
 have h28_30 := u30.w (u29.w (u28.w (u27.w h28_26)))
 refine wl_pq F30 (ex_bin (vy := (.int .i64 2)) (v := (.bool false)) h28_30 rfl (by kernel_rfl)) fun a31 u31 F31 h39_31 => ?_
 refine wl_pq F31 (ex_as h39_31) fun a32 u32 F32 h38_32 => ?_
 change Code.wp _ _ _ _ _
 refine wp_cond_false h38_32 ?_
 refine wp_sr ?_
 refine wl_pq F32 (ex_bin (vy := (.int .i64 3)) (v := (.bool false)) (u32.w (u31.w h28_30)) rfl (by kernel_rfl)) fun a33 u33 F33 h55_33 => ?_
 refine wl_pq F33 (ex_as h55_33) fun a34 u34 F34 h54_34 => ?_
 change Code.wp _ _ _ _ _
 refine wp_cond_false h54_34 ?_
 refine wp_sr ?_
 have h28_34 := u34.w (u33.w (u32.w (u31.w h28_30)))
 refine wl_pq F34 (ex_bin (vy := (.int .i64 4)) (v := (.bool false)) h28_34 rfl (by kernel_rfl)) fun a35 u35 F35 h59_35 => ?_
 refine wl_pq F35 (ex_as h59_35) fun a36 u36 F36 h58_36 => ?_
 change Code.wp _ _ _ _ _
 refine wp_cond_false h58_36 ?_
 refine wp_seq ?_
 refine wp_sr ?_
 refine wl_pq F36 (ex_bin (vy := (.int .i64 5)) (v := (.bool false)) (u36.w (u35.w h28_34)) rfl (by kernel_rfl)) fun a37 u37 F37 h66_37 => ?_
 refine wl_pq F37 (ex_as h66_37) fun a38 u38 F38 h65_38 => ?_
 change Code.wp _ _ _ _ _
 refine wp_cond_false h65_38 ?_
 refine rg_list ?_
 have h28_38 := u38.w (u37.w (u36.w (u35.w h28_34)))
 refine wl_pq F38 (ex_bin (vy := (.int .i64 11)) (v := (.bool false)) h28_38 rfl (by kernel_rfl)) fun a39 u39 F39 h67_39 => ?_
 refine wl_pq F39 (ex_as h67_39) fun a40 u40 F40 h65_40 => ?_
 change Code.wp _ _ _ _ _
 refine wp_cond_false h65_40 ?_
 refine wp_seq ?_
 refine wp_sr ?_
 refine wl_pq F40 (ex_bin (vy := (.int .i64 6)) (v := (.bool false)) (u40.w (u39.w h28_38)) rfl (by kernel_rfl)) fun a41 u41 F41 h151_41 => ?_
 refine wl_pq F41 (ex_as h151_41) fun a42 u42 F42 h150_42 => ?_
 change Code.wp _ _ _ _ _
 refine wp_cond_false h150_42 ?_
 refine rg_list ?_
 have h28_42 := u42.w (u41.w (u40.w (u39.w h28_38)))
 refine wl_pq F42 (ex_bin (vy := (.int .i64 12)) (v := (.bool false)) h28_42 rfl (by kernel_rfl)) fun a43 u43 F43 h152_43 => ?_
 refine wl_pq F43 (ex_as h152_43) fun a44 u44 F44 h150_44 => ?_
 change Code.wp _ _ _ _ _
 refine wp_cond_false h150_44 ?_
 refine wp_sr ?_
 refine wl_pq F44 (ex_bin (vy := (.int .i64 7)) (v := (.bool false)) (u44.w (u43.w h28_42)) rfl (by kernel_rfl)) fun a45 u45 F45 h208_45 => ?_
 refine wl_pq F45 (ex_as h208_45) fun a46 u46 F46 h207_46 => ?_
 change Code.wp _ _ _ _ _
 refine wp_cond_false h207_46 ?_
 refine wp_sr ?_
 have h28_46 := u46.w (u45.w (u44.w (u43.w h28_42)))
 refine wl_pq F46 (ex_bin (vy := (.int .i64 8)) (v := (.bool false)) h28_46 rfl (by kernel_rfl)) fun a47 u47 F47 h220_47 => ?_
 refine wl_pq F47 (ex_as h220_47) fun a48 u48 F48 h219_48 => ?_
 change Code.wp _ _ _ _ _
 refine wp_cond_false h219_48 ?_
 refine wp_sr ?_
 refine wl_pq F48 (ex_bin (vy := (.int .i64 9)) (v := (.bool false)) (u48.w (u47.w h28_46)) rfl (by kernel_rfl)) fun a49 u49 F49 h228_49 => ?_
 refine wl_pq F49 (ex_as h228_49) fun a50 u50 F50 h227_50 => ?_
 change Code.wp _ _ _ _ _
 refine wp_cond_false h227_50 ?_
 refine wp_sr ?_
 have h28_50 := u50.w (u49.w (u48.w (u47.w h28_46)))
 refine wl_pq F50 (ex_bin (vy := (.int .i64 10)) (v := (.bool false)) h28_50 rfl (by kernel_rfl)) fun a51 u51 F51 h232_51 => ?_
 refine wl_pq F51 (ex_as h232_51) fun a52 u52 F52 h231_52 => ?_
 change Code.wp _ _ _ _ _
 refine wp_cond_false h231_52 ?_
 refine wp_sr ?_
 refine wl_pq F52 (ex_bin (vy := (.int .i64 13)) (v := (.bool true)) (u52.w (u51.w h28_50)) rfl (by kernel_rfl)) fun a53 u53 F53 h240_53 => ?_
 refine wl_pq F53 (ex_as h240_53) fun a54 u54 F54 h239_54 => ?_
 change Code.wp _ _ _ _ _
 refine wp_cond_true h239_54 ?_
 refine rg_list ?_
 have h0_54 := u54.w (u53.w (u52.w (u51.w (u50.w (u49.w (u48.w (u47.w (u46.w (u45.w (u44.w (u43.w (u42.w (u41.w (u40.w (u39.w (u38.w (u37.w (u36.w (u35.w (u34.w (u33.w (u32.w (u31.w (u30.w (u29.w (u28.w (u27.w (u26.w (u25.w (u24.w (u23.w (u22.w (u21.w (u20.w (u19.w (u18.w (u17.w (u16.w (u15.w (u14.w (u13.w (u12.w (u11.w (u10.w (u9.w (u8.w (u7.w (u6.w (u5.w (u4.w (u3.w (u2.w (u1.w h0_0)))))))))))))))))))))))))))))))))))))))))))))))))))))
 refine wl_pq F54 (ex_mv h0_54) fun a55 u55 F55 h241_55 => ?_
 refine wl_cl (args := #[(.pointer (some ⟨b, 0, none⟩))]) (R := fun v w' => v = .tuple #[] ∧ PlS w' B b (d.frm) ∧ Kt B DP w2 w') (ex_cl (fun _ _ => by kernel_rfl) (arg1 h241_55)) ((iframe_any hO hk H_2.toS).mono fun _ _ h => ⟨_, h.1, rfl, h.2⟩) F55.l ?_
 rintro v w3 ⟨rfl, hS, K3⟩
 have KK := ((Kt.refl B DP w0).nw hw0 Q_2).trans K3
 intro a56 u56 h242_56
 have F56 := F55.pt u56
 change Code.wp _ _ _ _ _
 refine wp_sr ?_
 have h7_56 := u56.w (u55.w (u54.w (u53.w (u52.w (u51.w (u50.w (u49.w (u48.w (u47.w (u46.w (u45.w (u44.w (u43.w (u42.w (u41.w (u40.w (u39.w (u38.w (u37.w (u36.w (u35.w (u34.w (u33.w (u32.w (u31.w (u30.w (u29.w (u28.w (u27.w (u26.w (u25.w h7_24)))))))))))))))))))))))))))))))
 refine wl_pq F56 (ex_mv h7_56) fun a57 u57 F57 h250_57 => ?_
 refine wl_pq F57 (ex_bin (vy := .nilIface) (v := (.bool true)) h250_57 rfl (by kernel_rfl)) fun a58 u58 F58 h251_58 => ?_
 refine wl_pq F58 (ex_as h251_58) fun a59 u59 F59 h4_59 => ?_
 refine wl_pq F59 (ex_as (v := (.bool true)) rfl) fun a60 u60 F60 h5_60 => ?_
 change Code.wp _ _ _ _ _
 refine wp_ret ?_
 try simp only [Exit.then, Exit.inBlock]
 exact bodyPost_ret (v := .tuple #[(.bool true), (.bool true)]) ((results_tmp2 rfl _ _ _).trans (by rw [(u60.w h4_59), h5_60])) F60.defers ⟨rfl, hS, KK⟩
theorem step_14 {d : WinD} {k B b num : Nat} {s : SegD} {kv mv : Value} {w0 : World} (hO : d.Ok k) (hk9 : k < 900) (H_0 : PlS w0 B b d) (he : s.e < 160) (hnum : num ≤ 255) (ks_0 : KeySl w0 kv s.key) (ms_0 : MapSl w0 mv s.map) : Calls Tryd.prog 28 #[pt b, .agg #[(.int .i64 14), (.int .u64 0), (.string s.title), (.string s.uri), (.float .f64 (fb s.e)), (.int .i64 s.li), (.int .i64 s.off), kv, mv, (.slice none 0 0), (.bool s.disc), (.string s.date), (.int .i64 num)]] w0 fun e w' => e = .returned (.tuple #[.bool true, .bool true]) ∧ PlS w' B b ({ d with ver := num }) ∧ Kt B DP w0 w' := by
 have hw0 := H_0.hw_
 have hk : k ≤ 900 := Nat.le_of_lt hk9
 refine calls_of_wp Tryd.func28 rfl ?_
 generalize hA : Act.mk _ _ = a0
 have F0 : Fz 252 a0 := by subst hA; exact ⟨by simp [Tryd.ntmps28], rfl⟩
 have h0_0 : a0.tmps.getD 0 undef = (.pointer (some ⟨b, 0, none⟩)) := by subst hA; exact fr_arg rfl
 have h1_0 : a0.tmps.getD 1 undef = (.agg #[(.int .i64 14), (.int .u64 0), (.string s.title), (.string s.uri), (.float .f64 (fb s.e)), (.int .i64 s.li), (.int .i64 s.off), kv, mv, (.slice none 0 0), (.bool s.disc), (.string s.date), (.int .i64 num)]) := by subst hA; exact fr_arg rfl
 have Q_0 := grown_refl w0 none
 refine wp_sr ?_
 obtain ⟨g3, hg3⟩ : ∃ g, w0.heap.size = g := ⟨_, rfl⟩
 obtain ⟨w1, hr1, B3_1, G1, hs1⟩ := al_run (op := Instr.box 44 (.agg #[(.int .i64 14), (.int .u64 0), (.string s.title), (.string s.uri), (.float .f64 (fb s.e)), (.int .i64 s.li), (.int .i64 s.off), kv, mv, (.slice none 0 0), (.bool s.disc), (.string s.date), (.int .i64 num)])) (T := 44) (cs := #[(.int .i64 14), (.int .u64 0), (.string s.title), (.string s.uri), (.float .f64 (fb s.e)), (.int .i64 s.li), (.int .i64 s.off), kv, mv, (.slice none 0 0), (.bool s.disc), (.string s.date), (.int .i64 num)]) hg3 (fun _ => by kernel_rfl)
 have Q_1 := grown_trans Q_0 G1
 have ks_1 := ks_0.gn G1
 have ms_1 := ms_0.gn G1
 have H_1 := H_0.gn G1
 refine wl_pq F0 (ex_bx h1_0 hr1) fun a1 u1 F1 (h3_1 : a1.tmps.getD 3 undef = (.pointer (some ⟨g3, 0, none⟩))) => ?_
 clear Q_0 H_0
 refine wl_pq F1 (ex_as (v := (.bool false)) rfl) fun a2 u2 F2 h4_2 => ?_
 refine wl_pq F2 (ex_as (v := (.bool false)) rfl) fun a3 u3 F3 h5_3 => ?_
 change Code.wp _ _ _ _ _
 refine wp_sr ?_
 refine wl_pq F3 (ex_fb 1 (u3.w (u2.w h3_1))) fun a4 u4 F4 h8_4 => ?_
 refine wl_pq F4 (ex_lda h8_4 (ld_agg (n := 11) (o := 1) (xs := #[(.int .u64 0), (.string s.title), (.string s.uri), (.float .f64 (fb s.e)), (.int .i64 s.li), (.int .i64 s.off), kv, mv, (.slice none 0 0), (.bool s.disc), (.string s.date)]) (fun _ => by kernel_rfl) (fun _ => by kernel_rfl) B3_1 rfl (fun k hk => by rcases k with _ | _ | _ | _ | _ | _ | _ | _ | _ | _ | _ | k <;> first | rfl | omega))) fun a5 u5 F5 (h9_5 : a5.tmps.getD 9 undef = (.agg #[(.int .u64 0), (.string s.title), (.string s.uri), (.float .f64 (fb s.e)), (.int .i64 s.li), (.int .i64 s.off), kv, mv, (.slice none 0 0), (.bool s.disc), (.string s.date)])) => ?_
 refine wl_cl (args := #[(.agg #[(.int .u64 0), (.string s.title), (.string s.uri), (.float .f64 (fb s.e)), (.int .i64 s.li), (.int .i64 s.off), kv, mv, (.slice none 0 0), (.bool s.disc), (.string s.date)])]) (R := fun v w' => ∃ q kp mp, v = pt q ∧ Blk w' q 95 (segC 0 s kp mp) ∧ KeyP w' w1.heap.size kp s.key ∧ MapP w' w1.heap.size mp s.map ∧ w1.heap.size ≤ q ∧ w1.grownBy w' none) (ex_cl (fun _ _ => by kernel_rfl) (arg1 h9_5)) ((segmentTo_any ks_1 ms_1).mono fun _ _ ⟨q, kp, mp, h, r⟩ => ⟨_, h, q, kp, mp, rfl, r⟩) F5.l ?_
 rintro v w2 ⟨q, kq, mq, rfl, Bq_2, kq0, mq0, hq, G2⟩
 have B3_2 := B3_1.gn G2
 have Q_2 := grown_trans Q_1 G2
 have ks_2 := ks_1.gn G2
 have ms_2 := ms_1.gn G2
 have H_2 := H_1.toQ G2 hq
 have hBq : B ≤ q := Nat.le_trans H_1.hw_ hq
 have kq_2 := kq0.lo' H_1.hw_
 have mq_2 := mq0.lo' H_1.hw_
 intro a6 u6 h10_6
 have F6 := F5.pt u6
 clear Q_1 H_1
 refine wl_pq F6 (ex_as h10_6) fun a7 u7 F7 h6_7 => ?_
 change Code.wp _ _ _ _ _
 refine wp_seq ?_
 refine wp_sr ?_
 refine wl_pq F7 (ex_mv h6_7) fun a8 u8 F8 h11_8 => ?_
 refine wl_pq F8 (ex_nil h11_8) fun a9 u9 F9 h12_9 => ?_
 refine wl_pq F9 (ex_fb 3 h12_9) fun a10 u10 F10 h13_10 => ?_
 refine wl_pq F10 (ex_le (v := (.float .f64 (fb s.e))) h13_10 (Bq_2.cell 3)) fun a11 u11 F11 h14_11 => ?_
 refine wl_cl (args := #[(.float .f64 (fb s.e))]) (R := fun v w' => v = (.bool true) ∧ w2 = w') (ex_cl (fun _ _ => by kernel_rfl) (arg1 h14_11)) ((plain_any s.e (by omega) _).mono fun _ _ h => ⟨_, h.1, rfl, h.2⟩) F11.l ?_
 rintro v w' ⟨rfl, rfl⟩
 intro a12 u12 h15_12
 have F12 := F11.pt u12
 refine wl_pq F12 (ex_un (vx := (.bool true)) (v := (.bool false)) h15_12 rfl) fun a13 u13 F13 h16_13 => ?_
 refine wl_pq F13 (ex_mv h16_13) fun a14 u14 F14 h17_14 => ?_
 have h3_14 := u14.w (u13.w (u12.w (u11.w (u10.w (u9.w (u8.w (u7.w (u6.w (u5.w (u4.w (u3.w (u2.w h3_1))))))))))))
 refine wl_gq F14 (yl (e := 17) rfl h17_14) (ex_fb 12 h3_14) fun a15 u15 F15 h18_15 => ?_
 refine wl_gq F15 (yl (e := 17) rfl (u15.w h17_14)) (ex_le (v := (.int .i64 num)) h18_15 (B3_2.cell 12)) fun a16 u16 F16 h19_16 => ?_
 refine wl_gq F16 (yl (e := 17) rfl (u16.w (u15.w h17_14))) (ex_bin (vy := (.int .i64 0)) (v := (.bool false)) h19_16 rfl ((bo_ltn num 0 _).trans (by rw [decide_eq_false (by omega)]))) fun a17 u17 F17 h20_17 => ?_
 have h17_17 := u17.w (u16.w (u15.w h17_14))
 refine wl_pq F17 (ex_pick (q := false) h17_17 h20_17) fun a18 u18 F18 h21_18 => ?_
 refine wl_pq F18 (ex_mv h21_18) fun a19 u19 F19 h22_19 => ?_
 have h3_19 := u19.w (u18.w (u17.w (u16.w (u15.w h3_14))))
 refine wl_gq F19 (yl (e := 22) rfl h22_19) (ex_fb 12 h3_19) fun a20 u20 F20 h23_20 => ?_
 refine wl_gq F20 (yl (e := 22) rfl (u20.w h22_19)) (ex_le (v := (.int .i64 num)) h23_20 (B3_2.cell 12)) fun a21 u21 F21 h24_21 => ?_
 refine wl_gq F21 (yl (e := 22) rfl (u21.w (u20.w h22_19))) (ex_bin (vy := (.int .i64 255)) (v := (.bool false)) h24_21 rfl ((bo_gtn num 255 _).trans (by rw [decide_eq_false (by omega)]))) fun a22 u22 F22 h25_22 => ?_
 have h22_22 := u22.w (u21.w (u20.w h22_19))
 refine wl_pq F22 (ex_pick (q := false) h22_22 h25_22) fun a23 u23 F23 h26_23 => ?_
 change Code.wp _ _ _ _ _
 refine wp_cond_false h26_23 ?_
 refine wp_skip ?_
 change Code.wp _ _ _ _ _
 refine wp_sr ?_
 refine wl_pq F23 (ex_as (v := .nilIface) rfl) fun a24 u24 F24 h7_24 => ?_
 change Code.wp _ _ _ _ _
 refine wp_seq ?_
 refine wp_sr ?_
 have h3_24 := u24.w (u23.w (u22.w (u21.w (u20.w h3_19))))
 refine wl_pq F24 (ex_fb 0 h3_24) fun a25 u25 F25 h27_25 => ?_
 refine wl_pq F25 (ex_le (v := (.int .i64 14)) h27_25 (B3_2.cell 0)) fun a26 u26 F26 h28_26 => ?_
 change Code.wp _ _ _ _ _
 refine wp_block ?_
 refine wp_sr ?_
 refine wl_pq F26 (ex_bin (vy := (.int .i64 0)) (v := (.bool false)) h28_26 rfl (by kernel_rfl)) fun a27 u27 F27 h30_27 => ?_
 refine wl_pq F27 (ex_as h30_27) fun a28 u28 F28 h29_28 => ?_
 change Code.wp _ _ _ _ _
 refine wp_cond_false h29_28 ?_
 refine wp_sr ?_
 refine wl_pq F28 (ex_bin (vy := (.int .i64 1)) (v := (.bool false)) (u28.w (u27.w h28_26)) rfl (by kernel_rfl)) fun a29 u29 F29 h35_29 => ?_
 refine wl_pq F29 (ex_as h35_29) fun a30 u30 F30 h34_30 => ?_
 change Code.wp _ _ _ _ _
 refine wp_cond_false h34_30 ?_
 refine wp_sr ?_
 have h28_30 := u30.w (u29.w (u28.w (u27.w h28_26)))
 refine wl_pq F30 (ex_bin (vy := (.int .i64 2)) (v := (.bool false)) h28_30 rfl (by kernel_rfl)) fun a31 u31 F31 h39_31 => ?_
 refine wl_pq F31 (ex_as h39_31) fun a32 u32 F32 h38_32 => ?_
 change Code.wp _ _ _ _ _
 refine wp_cond_false h38_32 ?_
 refine wp_sr ?_
 refine wl_pq F32 (ex_bin (vy := (.int .i64 3)) (v := (.bool false)) (u32.w (u31.w h28_30)) rfl (by kernel_rfl)) fun a33 u33 F33 h55_33 => ?_
 refine wl_pq F33 (ex_as h55_33) fun a34 u34 F34 h54_34 => ?_
 change Code.wp _ _ _ _ _
 refine wp_cond_false h54_34 ?_
 refine wp_sr ?_
 have h28_34 := u34.w (u33.w (u32.w (u31.w h28_30)))
 refine wl_pq F34 (ex_bin (vy := (.int .i64 4)) (v := (.bool false)) h28_34 rfl (by kernel_rfl)) fun a35 u35 F35 h59_35 => ?_
 refine wl_pq F35 (ex_as h59_35) fun a36 u36 F36 h58_36 => ?_
 change Code.wp _ _ _ _ _
 refine wp_cond_false h58_36 ?_
 refine wp_seq ?_
 refine wp_sr ?_
 refine wl_pq F36 (ex_bin (vy := (.int .i64 5)) (v := (.bool false)) (u36.w (u35.w h28_34)) rfl (by kernel_rfl)) fun a37 u37 F37 h66_37 => ?_
 refine wl_pq F37 (ex_as h66_37) fun a38 u38 F38 h65_38 => ?_
 change Code.wp _ _ _ _ _
 refine wp_cond_false h65_38 ?_
 refine rg_list ?_
 have h28_38 := u38.w (u37.w (u36.w (u35.w h28_34)))
 refine wl_pq F38 (ex_bin (vy := (.int .i64 11)) (v := (.bool false)) h28_38 rfl (by kernel_rfl)) fun a39 u39 F39 h67_39 => ?_
 refine wl_pq F39 (ex_as h67_39) fun a40 u40 F40 h65_40 => ?_
 change Code.wp _ _ _ _ _
 refine wp_cond_false h65_40 ?_
 refine wp_seq ?_
 refine wp_sr ?_
 refine wl_pq F40 (ex_bin (vy := (.int .i64 6)) (v := (.bool false)) (u40.w (u39.w h28_38)) rfl (by kernel_rfl)) fun a41 u41 F41 h151_41 => ?_
 refine wl_pq F41 (ex_as h151_41) fun a42 u42 F42 h150_42 => ?_
 change Code.wp _ _ _ _ _
 refine wp_cond_false h150_42 ?_
 refine rg_list ?_
 have h28_42 := u42.w (u41.w (u40.w (u39.w h28_38)))
 refine wl_pq F42 (ex_bin (vy := (.int .i64 12)) (v := (.bool false)) h28_42 rfl (by kernel_rfl)) fun a43 u43 F43 h152_43 => ?_
 refine wl_pq F43 (ex_as h152_43) fun a44 u44 F44 h150_44 => ?_
 change Code.wp _ _ _ _ _
 refine wp_cond_false h150_44 ?_
 refine wp_sr ?_
 refine wl_pq F44 (ex_bin (vy := (.int .i64 7)) (v := (.bool false)) (u44.w (u43.w h28_42)) rfl (by kernel_rfl)) fun a45 u45 F45 h208_45 => ?_
 refine wl_pq F45 (ex_as h208_45) fun a46 u46 F46 h207_46 => ?_
 change Code.wp _ _ _ _ _
 refine wp_cond_false h207_46 ?_
 refine wp_sr ?_
 have h28_46 := u46.w (u45.w (u44.w (u43.w h28_42)))
 refine wl_pq F46 (ex_bin (vy := (.int .i64 8)) (v := (.bool false)) h28_46 rfl (by kernel_rfl)) fun a47 u47 F47 h220_47 => ?_
 refine wl_pq F47 (ex_as h220_47) fun a48 u48 F48 h219_48 => ?_
 change Code.wp _ _ _ _ _
 refine wp_cond_false h219_48 ?_
 refine wp_sr ?_
 refine wl_pq F48 (ex_bin (vy := (.int .i64 9)) (v := (.bool false)) (u48.w (u47.w h28_46)) rfl (by kernel_rfl)) fun a49 u49 F49 h228_49 => ?_
 refine wl_pq F49 (ex_as h228_49) fun a50 u50 F50 h227_50 => ?_
 change Code.wp _ _ _ _ _
 refine wp_cond_false h227_50 ?_
 refine wp_sr ?_
 have h28_50 := u50.w (u49.w (u48.w (u47.w h28_46)))
 refine wl_pq F50 (ex_bin (vy := (.int .i64 10)) (v := (.bool false)) h28_50 rfl (by kernel_rfl)) fun a51 u51 F51 h232_51 => ?_
 refine wl_pq F51 (ex_as h232_51) fun a52 u52 F52 h231_52 => ?_
 change Code.wp _ _ _ _ _
 refine wp_cond_false h231_52 ?_
 refine wp_sr ?_
 refine wl_pq F52 (ex_bin (vy := (.int .i64 13)) (v := (.bool false)) (u52.w (u51.w h28_50)) rfl (by kernel_rfl)) fun a53 u53 F53 h240_53 => ?_
 refine wl_pq F53 (ex_as h240_53) fun a54 u54 F54 h239_54 => ?_
 change Code.wp _ _ _ _ _
 refine wp_cond_false h239_54 ?_
 refine wp_sr ?_
 have h28_54 := u54.w (u53.w (u52.w (u51.w h28_50)))
 refine wl_pq F54 (ex_bin (vy := (.int .i64 14)) (v := (.bool true)) h28_54 rfl (by kernel_rfl)) fun a55 u55 F55 h244_55 => ?_
 refine wl_pq F55 (ex_as h244_55) fun a56 u56 F56 h243_56 => ?_
 change Code.wp _ _ _ _ _
 refine wp_cond_true h243_56 ?_
 refine rg_list ?_
 have h0_56 := u56.w (u55.w (u54.w (u53.w (u52.w (u51.w (u50.w (u49.w (u48.w (u47.w (u46.w (u45.w (u44.w (u43.w (u42.w (u41.w (u40.w (u39.w (u38.w (u37.w (u36.w (u35.w (u34.w (u33.w (u32.w (u31.w (u30.w (u29.w (u28.w (u27.w (u26.w (u25.w (u24.w (u23.w (u22.w (u21.w (u20.w (u19.w (u18.w (u17.w (u16.w (u15.w (u14.w (u13.w (u12.w (u11.w (u10.w (u9.w (u8.w (u7.w (u6.w (u5.w (u4.w (u3.w (u2.w (u1.w h0_0)))))))))))))))))))))))))))))))))))))))))))))))))))))))
 refine wl_pq F56 (ex_mv h0_56) fun a57 u57 F57 h245_57 => ?_
 have h3_57 := u57.w (u56.w (u55.w (u54.w (u53.w (u52.w (u51.w (u50.w (u49.w (u48.w (u47.w (u46.w (u45.w (u44.w (u43.w (u42.w (u41.w (u40.w (u39.w (u38.w (u37.w (u36.w (u35.w (u34.w (u33.w (u32.w (u31.w (u30.w (u29.w (u28.w (u27.w (u26.w (u25.w h3_24))))))))))))))))))))))))))))))))
 refine wl_pq F57 (ex_fb 12 h3_57) fun a58 u58 F58 h246_58 => ?_
 refine wl_pq F58 (ex_le (v := (.int .i64 num)) h246_58 (B3_2.cell 12)) fun a59 u59 F59 h247_59 => ?_
 refine wl_pq F59 (ex_conv (vx := (.int .i64 num)) (v := (.int .u8 num)) h247_59 (cv_iu8 num (by omega) _)) fun a60 u60 F60 h248_60 => ?_
 have h245_60 := u60.w (u59.w (u58.w h245_57))
 refine wl_cl (args := #[(.pointer (some ⟨b, 0, none⟩)), (.int .u8 num)]) (R := fun v w' => v = .tuple #[] ∧ PlS w' B b ({ d with ver := num }) ∧ Kt B DP w2 w') (ex_cl (fun _ _ => by kernel_rfl) (arg2 h245_60 h248_60)) ((setver_any hO hk H_2.toS).mono fun _ _ h => ⟨_, h.1, rfl, h.2⟩) F60.l ?_
 rintro v w3 ⟨rfl, hS, K3⟩
 have KK := ((Kt.refl B DP w0).nw hw0 Q_2).trans K3
 intro a61 u61 h249_61
 have F61 := F60.pt u61
 change Code.wp _ _ _ _ _
 refine wp_sr ?_
 have h7_61 := u61.w (u60.w (u59.w (u58.w (u57.w (u56.w (u55.w (u54.w (u53.w (u52.w (u51.w (u50.w (u49.w (u48.w (u47.w (u46.w (u45.w (u44.w (u43.w (u42.w (u41.w (u40.w (u39.w (u38.w (u37.w (u36.w (u35.w (u34.w (u33.w (u32.w (u31.w (u30.w (u29.w (u28.w (u27.w (u26.w (u25.w h7_24))))))))))))))))))))))))))))))))))))
 refine wl_pq F61 (ex_mv h7_61) fun a62 u62 F62 h250_62 => ?_
 refine wl_pq F62 (ex_bin (vy := .nilIface) (v := (.bool true)) h250_62 rfl (by kernel_rfl)) fun a63 u63 F63 h251_63 => ?_
 refine wl_pq F63 (ex_as h251_63) fun a64 u64 F64 h4_64 => ?_
 refine wl_pq F64 (ex_as (v := (.bool true)) rfl) fun a65 u65 F65 h5_65 => ?_
 change Code.wp _ _ _ _ _
 refine wp_ret ?_
 try simp only [Exit.then, Exit.inBlock]
 exact bodyPost_ret (v := .tuple #[(.bool true), (.bool true)]) ((results_tmp2 rfl _ _ _).trans (by rw [(u65.w h4_64), h5_65])) F65.defers ⟨rfl, hS, KK⟩
end Go.Proofs.YtdpebhlkgmopkaaDoor
