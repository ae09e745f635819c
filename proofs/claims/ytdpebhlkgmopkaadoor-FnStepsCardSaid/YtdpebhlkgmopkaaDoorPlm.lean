/-
 FnSteps: the methods of the library's playlist.
-/
import Derived.Test.YtdpebhlkgmopkaaDoorPls
namespace Go.Proofs.YtdpebhlkgmopkaaDoor
open Go.RowKit
set_option maxRecDepth 100000
theorem ver_up {b v n : Nat} {c0 c1 c2 c3 c4 c5 c6 c7 c8 c9 c10 c11 c12 c13 c14 c15 c16 c17 c18 c19 c21 c22 : Value} {w0 : World} (hl : v < n) (Bb_0 : Blk w0 b 104 #[c0, c1, c2, c3, c4, c5, c6, c7, c8, c9, c10, c11, c12, c13, c14, c15, c16, c17, c18, c19, (.int .u8 v), c21, c22]) : Calls Tryd.prog 63 #[.pointer (some ⟨b, 20, none⟩), .int .u8 n] w0 fun e w' => e = .returned (.tuple #[]) ∧ Blk w' b 104 #[c0, c1, c2, c3, c4, c5, c6, c7, c8, c9, c10, c11, c12, c13, c14, c15, c16, c17, c18, c19, (.int .u8 n), c21, c22] ∧ w0.grownBy w' (some b) := by
 refine calls_of_wp Tryd.func63 rfl ?_
 generalize hA : Act.mk _ _ = a0
 have F0 : Fz 12 a0 := by subst hA; exact ⟨by simp [Tryd.ntmps63], rfl⟩
 have h0_0 : a0.tmps.getD 0 undef = (.pointer (some ⟨b, 20, none⟩)) := by subst hA; exact fr_arg rfl
 have h1_0 : a0.tmps.getD 1 undef = (.int .u8 n) := by subst hA; exact fr_arg rfl
 have Q_0 := grown_refl w0 (some b)
 refine wp_sr ?_
 refine wl_pq F0 (ex_mv h0_0) fun a1 u1 F1 h4_1 => ?_
 refine wl_pq F1 (ex_nil h4_1) fun a2 u2 F2 h5_2 => ?_
 refine wl_pq F2 (ex_le (v := (.int .u8 v)) h5_2 (Bb_0.cell 20)) fun a3 u3 F3 h6_3 => ?_
 have h1_3 := u3.w (u2.w (u1.w h1_0))
 refine wl_pq F3 (ex_mv h1_3) fun a4 u4 F4 h7_4 => ?_
 refine wl_pq F4 (ex_bin (v := (.bool true)) (u4.w h6_3) h7_4 ((u8_lt v n _).trans (by rw [decide_eq_true hl]))) fun a5 u5 F5 h8_5 => ?_
 change Code.wp _ _ _ _ _
 refine wp_cond_true h8_5 ?_
 refine rg_list ?_
 have h0_5 := u5.w (u4.w (u3.w (u2.w (u1.w h0_0))))
 refine wl_pq F5 (ex_mv h0_5) fun a6 u6 F6 h9_6 => ?_
 have h1_6 := u6.w (u5.w (u4.w h1_3))
 refine wl_pq F6 (ex_mv h1_6) fun a7 u7 F7 h10_7 => ?_
 refine wl_pq F7 (ex_nil (u7.w h9_6)) fun a8 u8 F8 h11_8 => ?_
 obtain ⟨w1, hr1, Bb_1, G1⟩ := st_run (T := 5) (o := 20) (v := (.int .u8 n)) (cs' := #[c0, c1, c2, c3, c4, c5, c6, c7, c8, c9, c10, c11, c12, c13, c14, c15, c16, c17, c18, c19, (.int .u8 n), c21, c22]) (fun _ => by kernel_rfl) Bb_0 rfl (Nat.le_of_ble_eq_true rfl) rfl
 have Q_1 := grown_trans Q_0 G1
 refine wl_n (ex_st h11_8 (u8.w h10_7) hr1) ?_
 clear Q_0
 exact bodyPost_end (v := .tuple #[]) (results_none rfl _ _ _) F8.defers ⟨rfl, Bb_1, Q_1⟩
theorem ver_no {b v n : Nat} {c0 c1 c2 c3 c4 c5 c6 c7 c8 c9 c10 c11 c12 c13 c14 c15 c16 c17 c18 c19 c21 c22 : Value} {w0 : World} (hl : ¬ v < n) (Bb_0 : Blk w0 b 104 #[c0, c1, c2, c3, c4, c5, c6, c7, c8, c9, c10, c11, c12, c13, c14, c15, c16, c17, c18, c19, (.int .u8 v), c21, c22]) : Calls Tryd.prog 63 #[.pointer (some ⟨b, 20, none⟩), .int .u8 n] w0 fun e w' => e = .returned (.tuple #[]) ∧ Blk w' b 104 #[c0, c1, c2, c3, c4, c5, c6, c7, c8, c9, c10, c11, c12, c13, c14, c15, c16, c17, c18, c19, (.int .u8 v), c21, c22] ∧ w0.grownBy w' (some b) := by
 refine calls_of_wp Tryd.func63 rfl ?_
 generalize hA : Act.mk _ _ = a0
 have F0 : Fz 12 a0 := by subst hA; exact ⟨by simp [Tryd.ntmps63], rfl⟩
 have h0_0 : a0.tmps.getD 0 undef = (.pointer (some ⟨b, 20, none⟩)) := by subst hA; exact fr_arg rfl
 have h1_0 : a0.tmps.getD 1 undef = (.int .u8 n) := by subst hA; exact fr_arg rfl
 have Q_0 := grown_refl w0 (some b)
 refine wp_sr ?_
 refine wl_pq F0 (ex_mv h0_0) fun a1 u1 F1 h4_1 => ?_
 refine wl_pq F1 (ex_nil h4_1) fun a2 u2 F2 h5_2 => ?_
 refine wl_pq F2 (ex_le (v := (.int .u8 v)) h5_2 (Bb_0.cell 20)) fun a3 u3 F3 h6_3 => ?_
 have h1_3 := u3.w (u2.w (u1.w h1_0))
 refine wl_pq F3 (ex_mv h1_3) fun a4 u4 F4 h7_4 => ?_
 refine wl_pq F4 (ex_bin (v := (.bool false)) (u4.w h6_3) h7_4 ((u8_lt v n _).trans (by rw [decide_eq_false hl]))) fun a5 u5 F5 h8_5 => ?_
 change Code.wp _ _ _ _ _
 refine wp_cond_false h8_5 ?_
 refine wp_skip ?_
 exact bodyPost_end (v := .tuple #[]) (results_none rfl _ _ _) F5.defers ⟨rfl, Bb_0, Q_0⟩
theorem ver_raw {b v n : Nat} {c0 c1 c2 c3 c4 c5 c6 c7 c8 c9 c10 c11 c12 c13 c14 c15 c16 c17 c18 c19 c21 c22 : Value} {w0 : World} (Bb_0 : Blk w0 b 104 #[c0, c1, c2, c3, c4, c5, c6, c7, c8, c9, c10, c11, c12, c13, c14, c15, c16, c17, c18, c19, .int .u8 v, c21, c22]) : Calls Tryd.prog 63 #[.pointer (some ⟨b, 20, none⟩), .int .u8 n] w0 fun e w' => e = .returned (.tuple #[]) ∧ Blk w' b 104 #[c0, c1, c2, c3, c4, c5, c6, c7, c8, c9, c10, c11, c12, c13, c14, c15, c16, c17, c18, c19, .int .u8 (max v n : Nat), c21, c22] ∧ w0.grownBy w' (some b) := by
 by_cases hl : v < n
 · rw [Nat.max_eq_right (Nat.le_of_lt hl)]; exact ver_up hl Bb_0
 · rw [Nat.max_eq_left (Nat.le_of_not_lt hl)]; exact ver_no hl Bb_0
theorem reset17 {b : Nat} {c0 c1 c2 c3 c4 c5 c6 c7 c8 c9 c10 c11 c12 c13 c14 c15 c16 c20 c21 c22 : Value} {w0 : World} (Bb_0 : Blk w0 b 104 #[c0, c1, c2, c3, c4, c5, c6, c7, c8, c9, c10, c11, c12, c13, c14, c15, c16, (.slice none 0 0), (.int .i64 0), (.int .i8 0), c20, c21, c22]) : Calls Tryd.prog 59 #[.pointer (some ⟨b, 17, none⟩)] w0 fun e w' => e = .returned (.tuple #[]) ∧ Blk w' b 104 #[c0, c1, c2, c3, c4, c5, c6, c7, c8, c9, c10, c11, c12, c13, c14, c15, c16, (.slice none 0 0), (.int .i64 0), (.int .i8 0), c20, c21, c22] ∧ w0.grownBy w' (some b) := by
 refine calls_of_wp Tryd.func59 rfl ?_
 generalize hA : Act.mk _ _ = a0
 have F0 : Fz 16 a0 := by subst hA; exact ⟨by simp [Tryd.ntmps59], rfl⟩
 have h0_0 : a0.tmps.getD 0 undef = (.pointer (some ⟨b, 17, none⟩)) := by subst hA; exact fr_arg rfl
 have Q_0 := grown_refl w0 (some b)
 refine wp_sr ?_
 refine wl_pq F0 (ex_mv h0_0) fun a1 u1 F1 h2_1 => ?_
 refine wl_pq F1 (ex_mv (u1.w h0_0)) fun a2 u2 F2 h3_2 => ?_
 refine wl_pq F2 (ex_nil h3_2) fun a3 u3 F3 h4_3 => ?_
 refine wl_pq F3 (ex_fag (vx := (.pointer (some ⟨b, 17, none⟩))) (v := (.pointer (some ⟨b, 17, none⟩))) h4_3 (by kernel_rfl)) fun a4 u4 F4 h5_4 => ?_
 refine wl_pq F4 (ex_le (v := (.slice none 0 0)) h5_4 (Bb_0.cell 17)) fun a5 u5 F5 h6_5 => ?_
 refine wl_pq F5 (ex_sl (v := .slice none 0 0) h6_5 rfl rfl rfl (by kernel_rfl)) fun a6 u6 F6 h7_6 => ?_
 have h2_6 := u6.w (u5.w (u4.w (u3.w (u2.w h2_1))))
 refine wl_pq F6 (ex_nil h2_6) fun a7 u7 F7 h8_7 => ?_
 refine wl_pq F7 (ex_fag (vx := (.pointer (some ⟨b, 17, none⟩))) (v := (.pointer (some ⟨b, 17, none⟩))) h8_7 (by kernel_rfl)) fun a8 u8 F8 h9_8 => ?_
 obtain ⟨w1, hr1, Bb_1, G1⟩ := st_run (T := 98) (o := 17) (v := (.slice none 0 0)) (cs' := #[c0, c1, c2, c3, c4, c5, c6, c7, c8, c9, c10, c11, c12, c13, c14, c15, c16, (.slice none 0 0), (.int .i64 0), (.int .i8 0), c20, c21, c22]) (fun _ => by kernel_rfl) Bb_0 rfl (Nat.le_of_ble_eq_true rfl) rfl
 have Q_1 := grown_trans Q_0 G1
 refine wl_n (ex_st h9_8 (u8.w (u7.w h7_6)) hr1) ?_
 clear Q_0
 change Code.wp _ _ _ _ _
 refine wp_sr ?_
 have h0_8 := u8.w (u7.w (u6.w (u5.w (u4.w (u3.w (u2.w (u1.w h0_0)))))))
 refine wl_pq F8 (ex_mv h0_8) fun a9 u9 F9 h10_9 => ?_
 refine wl_pq F9 (ex_nil h10_9) fun a10 u10 F10 h11_10 => ?_
 refine wl_pq F10 (ex_fag (vx := (.pointer (some ⟨b, 17, none⟩))) (v := (.pointer (some ⟨b, 18, none⟩))) h11_10 (by kernel_rfl)) fun a11 u11 F11 h12_11 => ?_
 obtain ⟨w2, hr2, Bb_2, G2⟩ := st_run (T := 3) (o := 18) (v := (.int .i64 0)) (cs' := #[c0, c1, c2, c3, c4, c5, c6, c7, c8, c9, c10, c11, c12, c13, c14, c15, c16, (.slice none 0 0), (.int .i64 0), (.int .i8 0), c20, c21, c22]) (fun _ => by kernel_rfl) Bb_1 rfl (Nat.le_of_ble_eq_true rfl) rfl
 have Q_2 := grown_trans Q_1 G2
 refine wl_n (ex_st h12_11 rfl hr2) ?_
 clear Q_1
 change Code.wp _ _ _ _ _
 refine rg_list ?_
 have h0_11 := u11.w (u10.w (u9.w h0_8))
 refine wl_pq F11 (ex_mv h0_11) fun a12 u12 F12 h13_12 => ?_
 refine wl_pq F12 (ex_nil h13_12) fun a13 u13 F13 h14_13 => ?_
 refine wl_pq F13 (ex_fag (vx := (.pointer (some ⟨b, 17, none⟩))) (v := (.pointer (some ⟨b, 19, none⟩))) h14_13 (by kernel_rfl)) fun a14 u14 F14 h15_14 => ?_
 obtain ⟨w3, hr3, Bb_3, G3⟩ := st_run (T := 100) (o := 19) (v := (.int .i8 0)) (cs' := #[c0, c1, c2, c3, c4, c5, c6, c7, c8, c9, c10, c11, c12, c13, c14, c15, c16, (.slice none 0 0), (.int .i64 0), (.int .i8 0), c20, c21, c22]) (fun _ => by kernel_rfl) Bb_2 rfl (Nat.le_of_ble_eq_true rfl) rfl
 have Q_3 := grown_trans Q_2 G3
 refine wl_n (ex_st h15_14 rfl hr3) ?_
 clear Q_2
 exact bodyPost_end (v := .tuple #[]) (results_none rfl _ _ _) F14.defers ⟨rfl, Bb_3, Q_3⟩
theorem len17 {b : Nat} {c0 c1 c2 c3 c4 c5 c6 c7 c8 c9 c10 c11 c12 c13 c14 c15 c16 c20 c21 c22 : Value} {w0 : World} (Bb_0 : Blk w0 b 104 #[c0, c1, c2, c3, c4, c5, c6, c7, c8, c9, c10, c11, c12, c13, c14, c15, c16, (.slice none 0 0), (.int .i64 0), (.int .i8 0), c20, c21, c22]) : Calls Tryd.prog 61 #[.pointer (some ⟨b, 17, none⟩)] w0 fun e w' => e = .returned (.int .i64 0) ∧ w0.grownBy w' none := by
 refine calls_of_wp Tryd.func61 rfl ?_
 generalize hA : Act.mk _ _ = a0
 have F0 : Fz 13 a0 := by subst hA; exact ⟨by simp [Tryd.ntmps61], rfl⟩
 have h0_0 : a0.tmps.getD 0 undef = (.pointer (some ⟨b, 17, none⟩)) := by subst hA; exact fr_arg rfl
 have Q_0 := grown_refl w0 none
 refine wp_sr ?_
 refine wl_pq F0 (ex_as (v := (.int .i64 0)) rfl) fun a1 u1 F1 h2_1 => ?_
 change Code.wp _ _ _ _ _
 refine wp_seq ?_
 obtain ⟨w1, hw1⟩ : ∃ w, w = w0.drew := ⟨_, rfl⟩
 have G1 : w0.grownBy w1 none := hw1 ▸ grown_drew _
 have Bb_1 := Bb_0.gn G1
 have Q_1 := grown_trans Q_0 G1
 refine rg_still hw1 hmix (by kernel_rfl) ?_
 clear Q_0
 refine st_pq F1 (ex_mv (u1.w h0_0)) fun a2 u2 F2 h3_2 => ?_
 refine st_pq F2 (ex_nil h3_2) fun a3 u3 F3 h4_3 => ?_
 refine st_pq F3 (ex_fag (vx := (.pointer (some ⟨b, 17, none⟩))) (v := (.pointer (some ⟨b, 17, none⟩))) h4_3 (by kernel_rfl)) fun a4 u4 F4 h5_4 => ?_
 refine st_pq F4 (ex_le (v := (.slice none 0 0)) h5_4 (Bb_1.cell 17)) fun a5 u5 F5 h6_5 => ?_
 refine st_pq F5 (ex_bi (w' := w1) (args := #[(.slice none 0 0)]) (v := (.int .i64 0)) (arg1 h6_5) (by kernel_rfl)) fun a6 u6 F6 h7_6 => ?_
 have h0_6 := u6.w (u5.w (u4.w (u3.w (u2.w (u1.w h0_0)))))
 refine st_pq F6 (ex_mv h0_6) fun a7 u7 F7 h8_7 => ?_
 refine st_pq F7 (ex_nil h8_7) fun a8 u8 F8 h9_8 => ?_
 refine st_pq F8 (ex_fag (vx := (.pointer (some ⟨b, 17, none⟩))) (v := (.pointer (some ⟨b, 18, none⟩))) h9_8 (by kernel_rfl)) fun a9 u9 F9 h10_9 => ?_
 refine st_pq F9 (ex_le (v := (.int .i64 0)) h10_9 (Bb_1.cell 18)) fun a10 u10 F10 h11_10 => ?_
 have h7_10 := u10.w (u9.w (u8.w (u7.w h7_6)))
 refine st_pq F10 (ex_bin (v := (.int .i64 0)) h7_10 h11_10 (by kernel_rfl)) fun a11 u11 F11 h12_11 => ?_
 refine st_pq F11 (ex_as h12_11) fun a12 u12 F12 h2_12 => ?_
 change Code.wp _ _ _ _ _
 refine wp_ret ?_
 try simp only [Exit.then, Exit.inBlock]
 exact bodyPost_ret (v := (.int .i64 0)) ((results_tmp rfl _ _ _).trans (by rw [h2_12])) F12.defers ⟨rfl, Q_1⟩
theorem last_raw {b cap t : Nat} {c0 c1 c2 c3 c4 c5 c6 c7 c8 c9 c10 c11 c12 c14 c16 c17 c18 c19 c20 c21 c22 : Value} {w0 : World} (hc : 0 < cap) (hc2 : cap < 1000) (ht : t < cap) (Bb_0 : Blk w0 b 104 #[c0, c1, c2, c3, c4, c5, c6, c7, c8, c9, c10, c11, c12, (.int .u64 cap), c14, (.int .u64 t), c16, c17, c18, c19, c20, c21, c22]) : Calls Tryd.prog 64 #[pt b] w0 fun e w' => e = .returned (.int .u64 (if t = 0 then cap - 1 else t - 1 : Nat)) ∧ w0 = w' := by
 refine calls_of_wp Tryd.func64 rfl ?_
 generalize hA : Act.mk _ _ = a0
 have F0 : Fz 18 a0 := by subst hA; exact ⟨by simp [Tryd.ntmps64], rfl⟩
 have h0_0 : a0.tmps.getD 0 undef = (.pointer (some ⟨b, 0, none⟩)) := by subst hA; exact fr_arg rfl
 refine wp_sr ?_
 refine wl_pq F0 (ex_as (v := (.int .u64 0)) rfl) fun a1 u1 F1 h2_1 => ?_
 change Code.wp _ _ _ _ _
 refine wp_seq ?_
 refine wp_sr ?_
 refine wl_pq F1 (ex_mv (u1.w h0_0)) fun a2 u2 F2 h3_2 => ?_
 refine wl_pq F2 (ex_nil h3_2) fun a3 u3 F3 h4_3 => ?_
 refine wl_pq F3 (ex_fb 15 h4_3) fun a4 u4 F4 h5_4 => ?_
 refine wl_pq F4 (ex_le (v := (.int .u64 t)) h5_4 (Bb_0.cell 15)) fun a5 u5 F5 h6_5 => ?_
 refine wl_pq F5 (ex_bin (vy := (.int .u64 0)) (v := (.bool (decide (t = 0)))) h6_5 rfl (uo_eq t 0 _)) fun a6 u6 F6 h7_6 => ?_
 change Code.wp _ _ _ _ _
 by_cases hq : t = 0
 · refine wp_cond_true (h7_6.trans (by rw [decide_eq_true hq])) ?_
   refine wp_sr ?_
   have h0_6 := u6.w (u5.w (u4.w (u3.w (u2.w (u1.w h0_0)))))
   refine wl_pq F6 (ex_mv h0_6) fun a7 u7 F7 h8_7 => ?_
   refine wl_pq F7 (ex_nil h8_7) fun a8 u8 F8 h9_8 => ?_
   refine wl_pq F8 (ex_fb 13 h9_8) fun a9 u9 F9 h10_9 => ?_
   refine wl_pq F9 (ex_le (v := (.int .u64 cap)) h10_9 (Bb_0.cell 13)) fun a10 u10 F10 h11_10 => ?_
   refine wl_pq F10 (ex_bin (vy := (.int .u64 1)) (v := (.int .u64 (cap - 1 : Nat))) h11_10 rfl (uo_sub cap 1 (by omega) (by omega) _)) fun a11 u11 F11 h12_11 => ?_
   refine wl_pq F11 (ex_as h12_11) fun a12 u12 F12 h2_12 => ?_
   change Code.wp _ _ _ _ _
   refine wp_ret ?_
   try simp only [Exit.then, Exit.inBlock]
   exact bodyPost_ret (v := (.int .u64 (cap - 1 : Nat))) ((results_tmp rfl _ _ _).trans (by rw [h2_12])) F12.defers ⟨by rw [if_pos hq], rfl⟩
 · refine wp_cond_false (h7_6.trans (by rw [decide_eq_false hq])) ?_
   refine wp_skip ?_
   change Code.wp _ _ _ _ _
   refine wp_sr ?_
   have h0_6 := u6.w (u5.w (u4.w (u3.w (u2.w (u1.w h0_0)))))
   refine wl_pq F6 (ex_mv h0_6) fun a7 u7 F7 h13_7 => ?_
   refine wl_pq F7 (ex_nil h13_7) fun a8 u8 F8 h14_8 => ?_
   refine wl_pq F8 (ex_fb 15 h14_8) fun a9 u9 F9 h15_9 => ?_
   refine wl_pq F9 (ex_le (v := (.int .u64 t)) h15_9 (Bb_0.cell 15)) fun a10 u10 F10 h16_10 => ?_
   refine wl_pq F10 (ex_bin (vy := (.int .u64 1)) (v := (.int .u64 (t - 1 : Nat))) h16_10 rfl (uo_sub t 1 (by omega) (by omega) _)) fun a11 u11 F11 h17_11 => ?_
   refine wl_pq F11 (ex_as h17_11) fun a12 u12 F12 h2_12 => ?_
   change Code.wp _ _ _ _ _
   refine wp_ret ?_
   try simp only [Exit.then, Exit.inBlock]
   exact bodyPost_ret (v := (.int .u64 (t - 1 : Nat))) ((results_tmp rfl _ _ _).trans (by rw [h2_12])) F12.defers ⟨by rw [if_neg hq], rfl⟩
end Go.Proofs.YtdpebhlkgmopkaaDoor
