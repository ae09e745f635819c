/-
 FnSteps: the law itself.
-/
import Derived.Test.YtdpebhlkgmopkaaDoorFnp
namespace Go.Proofs.YtdpebhlkgmopkaaDoor
open Go.RowKit
set_option maxRecDepth 100000
set_option maxHeartbeats 1600000 in
theorem fnsteps_walk {ao : Option Addr} {b off len cap v1 v2 : Nat} {zs : Nat → Nat} {w0 : World} (hl : len ≤ 60) (hu : U32s w0 ao b off len cap zs) (hv1 : v1 < 256) (hv2 : v2 < 256) (hev : EV w0) (hlo : 0 < w0.heap.size) : Calls Tryd.prog 3 #[.slice ao len cap, .int .u8 v1, .int .u8 v2] w0 fun e w' => e = .returned (.bool true) ∧ Below w0.heap.size w0 w' := by
 have hw : w0.heap.size ≤ w0.heap.size := Nat.le_refl _
 obtain ⟨p, hp⟩ : ∃ p, 1 + v1 % 12 = p := ⟨_, rfl⟩
 obtain ⟨wr, hwr⟩ : ∃ wr, v2 % (p + 1) = wr := ⟨_, rfl⟩
 have hp1 : 1 ≤ p := by omega
 have hp12 : p ≤ 12 := by omega
 have hwrp : wr ≤ p := by rw [← hwr]; exact Nat.le_of_lt_succ (Nat.mod_lt _ (by omega))
 obtain ⟨d0, hd0⟩ : ∃ d0, (⟨p, wr, 3, 0, 0, false, false, none, none, [], []⟩ : WinD) = d0 := ⟨_, rfl⟩
 have hO0 : d0.Ok 0 := hd0 ▸ WinD.new_ok hp1 hp12 hwrp
 refine calls_of_wp Tryd.func3 rfl ?_
 generalize hA : Act.mk _ _ = a0
 have F0 : Fz 358 a0 := by subst hA; exact ⟨by simp [Tryd.ntmps3], rfl⟩
 have h0_0 : a0.tmps.getD 0 undef = (.slice ao len cap) := by subst hA; exact fr_arg rfl
 have h1_0 : a0.tmps.getD 1 undef = (.int .u8 v1) := by subst hA; exact fr_arg rfl
 have h2_0 : a0.tmps.getD 2 undef = (.int .u8 v2) := by subst hA; exact fr_arg rfl
 have K_0 := Kt.refl w0.heap.size DL w0
 refine wp_sr ?_
 refine wl_pq F0 (ex_as (v := (.bool false)) rfl) fun a1 u1 F1 h6_1 => ?_
 change Code.wp _ _ _ _ _
 refine wp_seq ?_
 refine wp_sr ?_
 refine wl_pq F1 (ex_mv (u1.w h0_0)) fun a2 u2 F2 h28_2 => ?_
 refine wl_pq F2 (ex_bi (w' := w0) (args := #[(.slice ao len cap)]) (v := (.int .i64 len)) (arg1 h28_2) (by kernel_rfl)) fun a3 u3 F3 h29_3 => ?_
 refine wl_pq F3 (ex_bin (vy := (.int .i64 2147483647)) (v := (.bool false)) h29_3 rfl ((bo_gtn len 2147483647 _).trans (by rw [decide_eq_false (by omega)]))) fun a4 u4 F4 h30_4 => ?_
 change Code.wp _ _ _ _ _
 refine wp_cond_false h30_4 ?_
 refine wp_skip ?_
 change Code.wp _ _ _ _ _
 refine wp_seq ?_
 refine wp_sr ?_
 have h0_4 := u4.w (u3.w (u2.w (u1.w h0_0)))
 refine wl_pq F4 (ex_mv h0_4) fun a5 u5 F5 h31_5 => ?_
 refine wl_pq F5 (ex_bi (w' := w0) (args := #[(.slice ao len cap)]) (v := (.int .i64 len)) (arg1 h31_5) (by kernel_rfl)) fun a6 u6 F6 h32_6 => ?_
 refine wl_pq F6 (ex_bin (vy := (.int .i64 60)) (v := (.bool false)) h32_6 rfl ((bo_gtn len 60 _).trans (by rw [decide_eq_false (by omega)]))) fun a7 u7 F7 h33_7 => ?_
 change Code.wp _ _ _ _ _
 refine wp_cond_false h33_7 ?_
 refine wp_skip ?_
 change Code.wp _ _ _ _ _
 refine wp_sr ?_
 have h1_7 := u7.w (u6.w (u5.w (u4.w (u3.w (u2.w (u1.w h1_0))))))
 refine wl_pq F7 (ex_mv h1_7) fun a8 u8 F8 h34_8 => ?_
 refine wl_pq F8 (ex_bin (vy := (.int .u8 12)) (v := (.int .u8 (v1 % 12 : Nat))) h34_8 rfl (ub_rem v1 12 (by decide) _)) fun a9 u9 F9 h35_9 => ?_
 refine wl_pq F9 (ex_conv (vx := (.int .u8 (v1 % 12 : Nat))) (v := (.int .i64 (v1 % 12 : Nat))) h35_9 (cv_u8i (v1 % 12 : Nat) (by omega) _)) fun a10 u10 F10 h36_10 => ?_
 refine wl_pq F10 (ex_bin (vx := (.int .i64 1)) (v := (.int .i64 p)) rfl h36_10 ((bo_addn 1 (v1 % 12) (by omega) _).trans (by rw [hp]))) fun a11 u11 F11 h37_11 => ?_
 refine wl_pq F11 (ex_as h37_11) fun a12 u12 F12 h7_12 => ?_
 change Code.wp _ _ _ _ _
 refine wp_sr ?_
 have h2_12 := u12.w (u11.w (u10.w (u9.w (u8.w (u7.w (u6.w (u5.w (u4.w (u3.w (u2.w (u1.w h2_0)))))))))))
 refine wl_pq F12 (ex_mv h2_12) fun a13 u13 F13 h38_13 => ?_
 refine wl_pq F13 (ex_conv (vx := (.int .u8 v2)) (v := (.int .i64 v2)) h38_13 (cv_u8i v2 (by omega) _)) fun a14 u14 F14 h39_14 => ?_
 refine wl_pq F14 (ex_mv (u14.w (u13.w h7_12))) fun a15 u15 F15 h40_15 => ?_
 refine wl_pq F15 (ex_bin (vy := (.int .i64 1)) (v := (.int .i64 (p + 1 : Nat))) h40_15 rfl (bo_addn p 1 (by omega) _)) fun a16 u16 F16 h41_16 => ?_
 refine wl_pq F16 (ex_bin (v := (.int .i64 wr)) (u16.w (u15.w h39_14)) h41_16 ((ui_rem v2 (p + 1) (by omega) _).trans (by rw [hwr]))) fun a17 u17 F17 h42_17 => ?_
 refine wl_pq F17 (ex_as h42_17) fun a18 u18 F18 h8_18 => ?_
 change Code.wp _ _ _ _ _
 refine wp_sr ?_
 refine wl_pq F18 (ex_mv h8_18) fun a19 u19 F19 h43_19 => ?_
 have h7_19 := u19.w (u18.w (u17.w (u16.w (u15.w (u14.w (u13.w h7_12))))))
 refine wl_pq F19 (ex_mv h7_19) fun a20 u20 F20 h44_20 => ?_
 refine wl_cl (args := #[(.int .i64 wr), (.int .i64 p)]) (R := fun v w' => ∃ wb, v = pt wb ∧ WinS w' w0.heap.size wb d0 ∧ w0.grownBy w' none) (ex_cl (fun _ _ => by kernel_rfl) (arg2 (u20.w h43_19) h44_20)) ((newwin (wr := wr) (p := p) (w0 := w0)).mono fun _ _ ⟨wb, h, h1, h2, _⟩ => ⟨_, h, wb, rfl, hd0 ▸ h1, h2⟩) F20.l ?_
 rintro v w1 ⟨wb, rfl, H_1, G1⟩
 have K_1 := K_0.nw hw G1
 intro a21 u21 h45_21
 have F21 := F20.pt u21
 clear K_0
 refine wl_pq F21 (ex_as h45_21) fun a22 u22 F22 h9_22 => ?_
 change Code.wp _ _ _ _ _
 refine wp_sr ?_
 obtain ⟨g46, hg46⟩ : ∃ g, w1.heap.size = g := ⟨_, rfl⟩
 have ge46 : w0.heap.size ≤ g46 := by have := K_1.bel.size; omega
 obtain ⟨w2, hr2, B46_2, G2, hs2⟩ := bs_run (op := Instr.buildSlice 25 0 #[]) (n := 0) (T := 44) (cs := #[]) hg46 (fun _ => by kernel_rfl)
 have K_2 := K_1.nw hw G2
 have H_2 := H_1.kt (Kt.of_none G2) (by decide)
 refine wl_pq F22 (ex_bs (vs := #[]) (by simp) hr2) fun a23 u23 F23 (h46_23 : a23.tmps.getD 46 undef = (.slice (some ⟨g46, 0, none⟩) 0 0)) => ?_
 clear K_1 H_1
 obtain ⟨g47, hg47⟩ : ∃ g, w2.heap.size = g := ⟨_, rfl⟩
 have ne_46_47 : g46 ≠ g47 := by have := B46_2.lt; omega
 have ge47 : w0.heap.size ≤ g47 := by have := K_2.bel.size; omega
 obtain ⟨w3, hr3, B47_3, G3, hs3⟩ := bs_run (op := Instr.buildSlice 26 0 #[]) (n := 0) (T := 4) (cs := #[]) hg47 (fun _ => by kernel_rfl)
 have B46_3 := B46_2.gn G3
 have K_3 := K_2.nw hw G3
 have H_3 := H_2.kt (Kt.of_none G3) (by decide)
 refine wl_pq F23 (ex_bs (vs := #[]) (by simp) hr3) fun a24 u24 F24 (h47_24 : a24.tmps.getD 47 undef = (.slice (some ⟨g47, 0, none⟩) 0 0)) => ?_
 clear K_2 H_2
 refine wl_pq F24 (ex_as (u24.w h46_23)) fun a25 u25 F25 h10_25 => ?_
 refine wl_pq F25 (ex_as (u25.w h47_24)) fun a26 u26 F26 h11_26 => ?_
 change Code.wp _ _ _ _ _
 refine wp_seq ?_
 refine wp_sr ?_
 have h0_26 := u26.w (u25.w (u24.w (u23.w (u22.w (u21.w (u20.w (u19.w (u18.w (u17.w (u16.w (u15.w (u14.w (u13.w (u12.w (u11.w (u10.w (u9.w (u8.w (u7.w (u6.w (u5.w h0_4)))))))))))))))))))))
 refine wl_pq F26 (ex_mv h0_26) fun a27 u27 F27 h48_27 => ?_
 refine wl_pq F27 (ex_bi (w' := w3) (args := #[(.slice ao len cap)]) (v := (.int .i64 len)) (arg1 h48_27) (by kernel_rfl)) fun a28 u28 F28 h49_28 => ?_
 refine wl_pq F28 (ex_mv (v := (.int .i64 0)) rfl) fun a29 u29 F29 h50_29 => ?_
 change Code.wp _ _ _ _ _
 have sr_3 : STR w3 w0.heap.size (.slice (some ⟨g46, 0, none⟩) 0 0) [] := STR.zero B46_3 ge46
 have wr_3 : GR w3 w0.heap.size 4 Value.bool (.slice (some ⟨g47, 0, none⟩) 0 0) (d0.tolds []) := BR.zero B47_3 ge47
 have h7_29 := u29.w (u28.w (u27.w (u26.w (u25.w (u24.w (u23.w (u22.w (u21.w (u20.w h7_19)))))))))
 have h8_29 := u29.w (u28.w (u27.w (u26.w (u25.w (u24.w (u23.w (u22.w (u21.w (u20.w (u19.w h8_18))))))))))
 have h9_29 := u29.w (u28.w (u27.w (u26.w (u25.w (u24.w (u23.w h9_22))))))
 have h10_29 := u29.w (u28.w (u27.w (u26.w h10_25)))
 have h11_29 := u29.w (u28.w (u27.w h11_26))
 refine loop_k (si := 50) (ty := .i64) (m := len) (fun (j : Nat) a w => ∃ sv : Value, ∃ wv : Value, ∃ xs : List StepD, (Fz 358 a) ∧ (a.tmps.getD 50 undef = .int .i64 j) ∧ (a.tmps.getD 48 undef = (.slice ao len cap)) ∧ (a.tmps.getD 49 undef = (.int .i64 len)) ∧ (a.tmps.getD 7 undef = (.int .i64 p)) ∧ (a.tmps.getD 8 undef = (.int .i64 wr)) ∧ (a.tmps.getD 9 undef = (pt wb)) ∧ (a.tmps.getD 10 undef = sv) ∧ (a.tmps.getD 11 undef = wv) ∧ (Kt w0.heap.size DL w0 w) ∧ (WinS w w0.heap.size wb (d0.execs xs)) ∧ (STR w w0.heap.size sv xs) ∧ (GR w w0.heap.size 4 Value.bool wv (d0.tolds xs)) ∧ (∀ x ∈ xs, x.Ok) ∧ (xs.length = j)) ⟨(.slice (some ⟨g46, 0, none⟩) 0 0), (.slice (some ⟨g47, 0, none⟩) 0 0), [], F29, h50_29, (u29.w (u28.w h48_27)), (u29.w h49_28), h7_29, h8_29, h9_29, h10_29, h11_29, K_3, H_3, sr_3, wr_3, (by simp), rfl⟩ (fun _ _ _ ⟨_, _, _, h⟩ => h.2.1) ?_ ?_
 · clear K_3 H_3
   intro j a30 w4 hj ⟨sv, wv, xs, F30, h50_30, h48_30, h49_30, h7_30, h8_30, h9_30, h10_30, h11_30, K_4, H_4, sr_4, wr_4, hx_4, hn_4⟩ R hR
   have KR_4 := Kt.refl w4.heap.size [32, 44, 3] w4
   have hOj := hO0.execs xs hx_4
   refine wp_sr ?_
   refine wl_pq F30 (ex_bin (v := (.bool true)) h50_30 h49_30 ((bo_ltn j len _).trans (by rw [decide_eq_true (by omega)]))) fun a31 u31 F31 h51_31 => ?_
   change Code.wp _ _ _ _ _
   refine wp_seq ?_
   refine wp_cond_true h51_31 ?_
   refine wp_skip ?_
   change Code.wp _ _ _ _ _
   refine wp_seq ?_
   refine wp_block ?_
   refine wp_sr ?_
   obtain ⟨hao, hbl⟩ := hu.at_ (by omega)
   refine wl_pq F31 (ex_ixg (vx := (.slice ao len cap)) (vy := (.int .i64 j)) (v := (.pointer (some ⟨b, off + j, none⟩))) (u31.w h48_30) (u31.w h50_30) (by rw [hao]; exact ix32_run b off _ cap j hj _)) fun a32 u32 F32 h52_32 => ?_
   refine wl_pq F32 (ex_le (v := .int .u32 (zs j)) h52_32 (u32_at hu K_4.bel hj)) fun a33 u33 F33 h53_33 => ?_
   refine wl_pq F33 (ex_as h53_33) fun a34 u34 F34 h13_34 => ?_
   change Code.wp _ _ _ _ _
   refine wp_sr ?_
   obtain ⟨gkb, hgkb⟩ : ∃ g, w4.heap.size = g := ⟨_, rfl⟩
   have gekb : w4.heap.size ≤ gkb := by have := KR_4.bel.size; omega
   obtain ⟨w5, hr5, Bkb_5, G5, hs5⟩ := bs_run (op := Instr.buildSlice 28 20 #[(0, (.int .i64 0)), (1, (.int .i64 0)), (2, (.int .i64 0)), (3, (.int .i64 2)), (4, (.int .i64 2)), (5, (.int .i64 1)), (6, (.int .i64 3)), (7, (.int .i64 4)), (8, (.int .i64 5)), (9, (.int .i64 6)), (10, (.int .i64 7)), (11, (.int .i64 9)), (12, (.int .i64 10)), (13, (.int .i64 11)), (14, (.int .i64 12)), (15, (.int .i64 13)), (16, (.int .i64 14)), (17, (.int .i64 0)), (18, (.int .i64 2)), (19, (.int .i64 1))]) (n := 20) (T := 3) (cs := #[(.int .i64 0), (.int .i64 0), (.int .i64 0), (.int .i64 2), (.int .i64 2), (.int .i64 1), (.int .i64 3), (.int .i64 4), (.int .i64 5), (.int .i64 6), (.int .i64 7), (.int .i64 9), (.int .i64 10), (.int .i64 11), (.int .i64 12), (.int .i64 13), (.int .i64 14), (.int .i64 0), (.int .i64 2), (.int .i64 1)]) hgkb (fun _ => by kernel_rfl)
   have KR_5 := KR_4.nw (Nat.le_refl _) G5
   refine wl_pq F34 (ex_bs (vs := #[(0, (.int .i64 0)), (1, (.int .i64 0)), (2, (.int .i64 0)), (3, (.int .i64 2)), (4, (.int .i64 2)), (5, (.int .i64 1)), (6, (.int .i64 3)), (7, (.int .i64 4)), (8, (.int .i64 5)), (9, (.int .i64 6)), (10, (.int .i64 7)), (11, (.int .i64 9)), (12, (.int .i64 10)), (13, (.int .i64 11)), (14, (.int .i64 12)), (15, (.int .i64 13)), (16, (.int .i64 14)), (17, (.int .i64 0)), (18, (.int .i64 2)), (19, (.int .i64 1))]) (by simp only [List.map_toArray, List.map_cons, List.map_nil, ev_const]) hr5) fun a35 u35 F35 (h54_35 : a35.tmps.getD 54 undef = (.slice (some ⟨gkb, 0, none⟩) 20 20)) => ?_
   clear KR_4 hgkb
   refine wl_pq F35 (ex_mv (u35.w h13_34)) fun a36 u36 F36 h55_36 => ?_
   refine wl_pq F36 (ex_bin (vy := (.int .u32 20)) (v := (.int .u32 ((zs j) % 20 : Nat))) h55_36 rfl (uu_rem (zs j) 20 (by decide) _)) fun a37 u37 F37 h56_37 => ?_
   have hi20 : zs j % 20 < 20 := Nat.mod_lt _ (by decide)
   obtain ⟨kn, hkn⟩ : ∃ kn, kd (zs j % 20) = kn := ⟨_, rfl⟩
   refine wl_pq F37 (ex_ixg (vx := (.slice (some ⟨gkb, 0, none⟩) 20 20)) (vy := (.int .u32 ((zs j) % 20 : Nat))) (v := (.pointer (some ⟨gkb, (zs j % 20 : Nat), none⟩))) (u37.w (u36.w h54_35)) h56_37 (ix_kinds gkb (zs j % 20) hi20 _)) fun a38 u38 F38 h57_38 => ?_
   refine wl_pq F38 (ex_le (v := .int .i64 kn) h57_38 ((Bkb_5.cell _).trans ((kd_at _ hi20).trans (by rw [hkn])))) fun a39 u39 F39 h58_39 => ?_
   refine wl_pq F39 (ex_as h58_39) fun a40 u40 F40 h14_40 => ?_
   change Code.wp _ _ _ _ _
   refine wp_sr ?_
   have h13_40 := u40.w (u39.w (u38.w (u37.w (u36.w (u35.w h13_34)))))
   refine wl_pq F40 (ex_mv h13_40) fun a41 u41 F41 h59_41 => ?_
   obtain ⟨hr, hrb, hre⟩ := uu_mulw (zs j) 2654435761
   refine wl_pq F41 (ex_bin (vy := (.int .u32 2654435761)) (v := (.int .u32 hr)) h59_41 rfl (hre _ _ _)) fun a42 u42 F42 h60_42 => ?_
   obtain ⟨hv, hvb, hve⟩ := uu_addw hr 77
   obtain ⟨num, hnum⟩ : ∃ num, sh hv 3 % 16 = num := ⟨_, rfl⟩
   refine wl_pq F42 (ex_bin (vy := (.int .u32 77)) (v := (.int .u32 hv)) h60_42 rfl (hve _ _ _)) fun a43 u43 F43 h61_43 => ?_
   refine wl_pq F43 (ex_as h61_43) fun a44 u44 F44 h15_44 => ?_
   change Code.wp _ _ _ _ _
   refine wp_sr ?_
   refine wl_pq F44 (ex_mv h15_44) fun a45 u45 F45 h62_45 => ?_
   refine wl_cl (args := #[(.int .u32 hv)]) (R := fun v w' => ∃ s kp mp, v = .agg (ssegC s kp mp) ∧ SKey w' kp s.key ∧ SMap w' mp s.map ∧ SegOk s ∧ w5.grownBy w' none) (ex_cl (fun _ _ => by kernel_rfl) (arg1 h62_45)) ((segmentOf_any hv hvb w5).mono fun _ _ ⟨s, kp, mp, h, r⟩ => ⟨_, h, s, kp, mp, rfl, r⟩) F45.l ?_
   rintro v w6 ⟨s, kp, mp, rfl, kq_6, mq_6, ok, G6⟩
   have Bkb_6 := Bkb_5.gn G6
   have KR_6 := KR_5.nw (Nat.le_refl _) G6
   intro a46 u46 h63_46
   have F46 := F45.pt u46
   clear KR_5
   obtain ⟨g16, hg16⟩ : ∃ g, w6.heap.size = g := ⟨_, rfl⟩
   have ne_kb_16 : gkb ≠ g16 := by have := Bkb_6.lt; omega
   have ge16 : w4.heap.size ≤ g16 := by have := KR_6.bel.size; omega
   obtain ⟨w7, hr7, B16_7, G7, hs7⟩ := al_run (op := Instr.alloc 32 true (.tuple #[])) (T := 32) (cs := #[(.string { data := #[] }), (.string { data := #[] }), (.int .i64 0), (.int .i64 0), (.int .i64 0), (.pointer none), (.pointer none), (.bool false), (.string { data := #[] })]) hg16 (fun _ => by kernel_rfl)
   have Bkb_7 := Bkb_6.gn G7
   have KR_7 := KR_6.nw (Nat.le_refl _) G7
   have kq_7 := kq_6.kt (Kt.of_none G7) (by decide)
   have mq_7 := mq_6.kt (Kt.of_none G7) (by decide)
   refine wl_pq F46 (ex_al hr7) fun a47 u47 F47 (h16_47 : a47.tmps.getD 16 undef = (.pointer (some ⟨g16, 0, none⟩))) => ?_
   clear KR_6 kq_6 mq_6
   obtain ⟨w8, hr8, B16_8, G8⟩ := sta_run (T := 32) (cs := #[(.string s.title), (.string s.uri), (.int .i64 s.e), (.int .i64 s.li), (.int .i64 s.off), (pto kp), (pto mp), (.bool s.disc), (.string s.date)]) (fun _ => by kernel_rfl) B16_7 rfl rfl (one_ssegC s kp mp)
   have Bkb_8 := Bkb_7.gk G8 ne_kb_16
   have KR_8 := KR_7.blk (Nat.le_refl _) B16_7 ge16 (by decide) G8
   have kq_8 := kq_7.kt (Kt.of_blk B16_7 G8) (by decide)
   have mq_8 := mq_7.kt (Kt.of_blk B16_7 G8) (by decide)
   refine wl_n (ex_st h16_47 (u47.w h63_46) hr8) ?_
   clear KR_7 kq_7 mq_7
   change Code.wp _ _ _ _ _
   refine wp_sr ?_
   have h14_47 := u47.w (u46.w (u45.w (u44.w (u43.w (u42.w (u41.w h14_40))))))
   refine wl_pq F47 (ex_mv h14_47) fun a48 u48 F48 h64_48 => ?_
   refine wl_pq F48 (ex_lda (u48.w h16_47) (ld_agg (n := 9) (xs := #[(.string s.title), (.string s.uri), (.int .i64 s.e), (.int .i64 s.li), (.int .i64 s.off), (pto kp), (pto mp), (.bool s.disc), (.string s.date)]) (fun _ => by kernel_rfl) (fun _ => by kernel_rfl) B16_8 rfl (fun _ _ => by rw [Nat.zero_add] <;> rfl))) fun a49 u49 F49 (h65_49 : a49.tmps.getD 65 undef = (.agg #[(.string s.title), (.string s.uri), (.int .i64 s.e), (.int .i64 s.li), (.int .i64 s.off), (pto kp), (pto mp), (.bool s.disc), (.string s.date)])) => ?_
   refine wl_cl (args := #[(.agg #[(.string s.title), (.string s.uri), (.int .i64 s.e), (.int .i64 s.li), (.int .i64 s.off), (pto kp), (pto mp), (.bool s.disc), (.string s.date)])]) (R := fun v w' => ∃ kv mv, v = .agg (segD 0 s kv mv) ∧ KeySl w' kv s.key ∧ MapSl w' mv s.map ∧ w8.grownBy w' none) (ex_cl (fun _ _ => by kernel_rfl) (arg1 h65_49)) ((toSegment_any (by have := ok.2; omega) kq_8 mq_8).mono fun _ _ ⟨kv, mv, h, r⟩ => ⟨_, h, kv, mv, rfl, r⟩) F49.l ?_
   rintro v w9 ⟨kv, mv, rfl, ks_9, ms_9, G9⟩
   have Bkb_9 := Bkb_8.gn G9
   have B16_9 := B16_8.gn G9
   have KR_9 := KR_8.nw (Nat.le_refl _) G9
   have kq_9 := kq_8.kt (Kt.of_none G9) (by decide)
   have mq_9 := mq_8.kt (Kt.of_none G9) (by decide)
   obtain ⟨kva, kvn, kvc, rfl⟩ := ks_9.shape
   obtain ⟨mva, mvn, mvc, rfl⟩ := ms_9.shape
   intro a50 u50 h66_50
   have F50 := F49.pt u50
   clear KR_8 kq_8 mq_8
   have h15_50 := u50.w (u49.w (u48.w (u47.w (u46.w (u45.w h15_44)))))
   refine wl_pq F50 (ex_mv h15_50) fun a51 u51 F51 h67_51 => ?_
   refine wl_pq F51 (ex_bin (vy := (.int .u64 3)) (v := (.int .u32 (sh hv 3 : Nat))) h67_51 rfl (uu_shr hv 3 _)) fun a52 u52 F52 h68_52 => ?_
   refine wl_pq F52 (ex_bin (vy := (.int .u32 16)) (v := (.int .u32 ((sh hv 3 : Nat) % 16 : Nat))) h68_52 rfl (uu_rem (sh hv 3 : Nat) 16 (by decide) _)) fun a53 u53 F53 h69_53 => ?_
   refine wl_pq F53 (ex_conv (vx := (.int .u32 ((sh hv 3 : Nat) % 16 : Nat))) (v := (.int .i64 num)) h69_53 ((cv_27_3 (sh hv 3 % 16) (Nat.lt_of_lt_of_le (Nat.mod_lt _ (by decide)) (by decide)) _).trans (by rw [hnum]))) fun a54 u54 F54 h70_54 => ?_
   have h64_54 := u54.w (u53.w (u52.w (u51.w (u50.w (u49.w h64_48)))))
   have h66_54 := u54.w (u53.w (u52.w (u51.w h66_50)))
   refine wl_pq F54 (ex_bd (w' := w9) (vs := #[(0, (.int .i64 kn)), (1, (.agg #[(.int .u64 0), (.string s.title), (.string s.uri), (.float .f64 (fb s.e)), (.int .i64 s.li), (.int .i64 s.off), (.slice kva kvn kvc), (.slice mva mvn mvc), (.slice none 0 0), (.bool s.disc), (.string s.date)])), (2, (.int .i64 num))]) (v := (.agg #[(.int .i64 kn), (.int .u64 0), (.string s.title), (.string s.uri), (.float .f64 (fb s.e)), (.int .i64 s.li), (.int .i64 s.off), (.slice kva kvn kvc), (.slice mva mvn mvc), (.slice none 0 0), (.bool s.disc), (.string s.date), (.int .i64 num)])) (by have e0 : a54.eval (.tmp 64) = (.int .i64 kn) := h64_54; have e1 : a54.eval (.tmp 66) = (.agg #[(.int .u64 0), (.string s.title), (.string s.uri), (.float .f64 (fb s.e)), (.int .i64 s.li), (.int .i64 s.off), (.slice kva kvn kvc), (.slice mva mvn mvc), (.slice none 0 0), (.bool s.disc), (.string s.date)]) := h66_54; have e2 : a54.eval (.tmp 70) = (.int .i64 num) := h70_54; simp only [List.map_toArray, List.map_cons, List.map_nil, e0, e1, e2]) (by kernel_rfl)) fun a55 u55 F55 h71_55 => ?_
   obtain ⟨g17, hg17⟩ : ∃ g, w9.heap.size = g := ⟨_, rfl⟩
   have ne_kb_17 : gkb ≠ g17 := by have := Bkb_9.lt; omega
   have ne_16_17 : g16 ≠ g17 := by have := B16_9.lt; omega
   have ge17 : w4.heap.size ≤ g17 := by have := KR_9.bel.size; omega
   obtain ⟨w10, hr10, B17_10, G10, hs10⟩ := al_run (op := Instr.alloc 44 true (.tuple #[])) (T := 44) (cs := #[(.int .i64 0), (.int .u64 0), (.string { data := #[] }), (.string { data := #[] }), (.float .f64 0), (.int .i64 0), (.int .i64 0), (.slice none 0 0), (.slice none 0 0), (.slice none 0 0), (.bool false), (.string { data := #[] }), (.int .i64 0)]) hg17 (fun _ => by kernel_rfl)
   have Bkb_10 := Bkb_9.gn G10
   have B16_10 := B16_9.gn G10
   have KR_10 := KR_9.nw (Nat.le_refl _) G10
   have kq_10 := kq_9.kt (Kt.of_none G10) (by decide)
   have mq_10 := mq_9.kt (Kt.of_none G10) (by decide)
   have ks_10 := ks_9.kt (Kt.of_none G10) (by decide)
   have ms_10 := ms_9.kt (Kt.of_none G10) (by decide)
   refine wl_pq F55 (ex_al hr10) fun a56 u56 F56 (h17_56 : a56.tmps.getD 17 undef = (.pointer (some ⟨g17, 0, none⟩))) => ?_
   clear KR_9 kq_9 mq_9
   obtain ⟨w11, hr11, B17_11, G11⟩ := sta_run (T := 44) (cs := #[(.int .i64 kn), (.int .u64 0), (.string s.title), (.string s.uri), (.float .f64 (fb s.e)), (.int .i64 s.li), (.int .i64 s.off), (.slice kva kvn kvc), (.slice mva mvn mvc), (.slice none 0 0), (.bool s.disc), (.string s.date), (.int .i64 num)]) (fun _ => by kernel_rfl) B17_10 rfl rfl (by simp [Value.oneCell'])
   have Bkb_11 := Bkb_10.gk G11 ne_kb_17
   have B16_11 := B16_10.gk G11 ne_16_17
   have KR_11 := KR_10.blk (Nat.le_refl _) B17_10 ge17 (by decide) G11
   have kq_11 := kq_10.kt (Kt.of_blk B17_10 G11) (by decide)
   have mq_11 := mq_10.kt (Kt.of_blk B17_10 G11) (by decide)
   have ks_11 := ks_10.kt (Kt.of_blk B17_10 G11) (by decide)
   have ms_11 := ms_10.kt (Kt.of_blk B17_10 G11) (by decide)
   refine wl_n (ex_st h17_56 (u56.w h71_55) hr11) ?_
   clear KR_10 kq_10 mq_10
   change Code.wp _ _ _ _ _
   refine wp_sr ?_
   refine wl_pq F56 (ex_as (v := (.bool true)) rfl) fun a57 u57 F57 h18_57 => ?_
   change Code.wp _ _ _ _ _
   refine wp_seq ?_
   refine wp_sr ?_
   have h14_57 := u57.w (u56.w (u55.w (u54.w (u53.w (u52.w (u51.w (u50.w (u49.w (u48.w h14_47)))))))))
   refine wl_pq F57 (ex_mv h14_57) fun a58 u58 F58 h72_58 => ?_
   change Code.wp _ _ _ _ _
   have hN17 : w0.heap.size ≤ g17 := Nat.le_trans K_4.bel.size ge17
   have hN16 : w0.heap.size ≤ g16 := Nat.le_trans K_4.bel.size ge16
   have h7_58 := u58.w (u57.w (u56.w (u55.w (u54.w (u53.w (u52.w (u51.w (u50.w (u49.w (u48.w (u47.w (u46.w (u45.w (u44.w (u43.w (u42.w (u41.w (u40.w (u39.w (u38.w (u37.w (u36.w (u35.w (u34.w (u33.w (u32.w (u31.w h7_30)))))))))))))))))))))))))))
   have h8_58 := u58.w (u57.w (u56.w (u55.w (u54.w (u53.w (u52.w (u51.w (u50.w (u49.w (u48.w (u47.w (u46.w (u45.w (u44.w (u43.w (u42.w (u41.w (u40.w (u39.w (u38.w (u37.w (u36.w (u35.w (u34.w (u33.w (u32.w (u31.w h8_30)))))))))))))))))))))))))))
   have h48_58 := u58.w (u57.w (u56.w (u55.w (u54.w (u53.w (u52.w (u51.w (u50.w (u49.w (u48.w (u47.w (u46.w (u45.w (u44.w (u43.w (u42.w (u41.w (u40.w (u39.w (u38.w (u37.w (u36.w (u35.w (u34.w (u33.w (u32.w (u31.w h48_30)))))))))))))))))))))))))))
   have h49_58 := u58.w (u57.w (u56.w (u55.w (u54.w (u53.w (u52.w (u51.w (u50.w (u49.w (u48.w (u47.w (u46.w (u45.w (u44.w (u43.w (u42.w (u41.w (u40.w (u39.w (u38.w (u37.w (u36.w (u35.w (u34.w (u33.w (u32.w (u31.w h49_30)))))))))))))))))))))))))))
   have h50_58 := u58.w (u57.w (u56.w (u55.w (u54.w (u53.w (u52.w (u51.w (u50.w (u49.w (u48.w (u47.w (u46.w (u45.w (u44.w (u43.w (u42.w (u41.w (u40.w (u39.w (u38.w (u37.w (u36.w (u35.w (u34.w (u33.w (u32.w (u31.w h50_30)))))))))))))))))))))))))))
   have h9_58 := u58.w (u57.w (u56.w (u55.w (u54.w (u53.w (u52.w (u51.w (u50.w (u49.w (u48.w (u47.w (u46.w (u45.w (u44.w (u43.w (u42.w (u41.w (u40.w (u39.w (u38.w (u37.w (u36.w (u35.w (u34.w (u33.w (u32.w (u31.w h9_30)))))))))))))))))))))))))))
   have h10_58 := u58.w (u57.w (u56.w (u55.w (u54.w (u53.w (u52.w (u51.w (u50.w (u49.w (u48.w (u47.w (u46.w (u45.w (u44.w (u43.w (u42.w (u41.w (u40.w (u39.w (u38.w (u37.w (u36.w (u35.w (u34.w (u33.w (u32.w (u31.w h10_30)))))))))))))))))))))))))))
   have h11_58 := u58.w (u57.w (u56.w (u55.w (u54.w (u53.w (u52.w (u51.w (u50.w (u49.w (u48.w (u47.w (u46.w (u45.w (u44.w (u43.w (u42.w (u41.w (u40.w (u39.w (u38.w (u37.w (u36.w (u35.w (u34.w (u33.w (u32.w (u31.w h11_30)))))))))))))))))))))))))))
   have h15_58 := u58.w (u57.w (u56.w (u55.w (u54.w (u53.w (u52.w (u51.w h15_50)))))))
   have h16_58 := u58.w (u57.w (u56.w (u55.w (u54.w (u53.w (u52.w (u51.w (u50.w (u49.w (u48.w h16_47))))))))))
   refine sw_all hOj (by omega) (hkn ▸ kd_in hi20) ⟨F58, h7_58, h8_58, h48_58, h49_58, h50_58, h9_58, h10_58, h11_58, (u58.w h14_57), h15_58, h16_58, (u58.w (u57.w h17_56)), (u58.w h18_57), h72_58, K_4.into KR_11 hw rfl (by decide), H_4.bl KR_11.bel, sr_4.bl KR_11.bel, wr_4.bl KR_11.bel, B16_11, B17_11, ks_11, ms_11, kq_11, mq_11, ok, (by rw [← hnum]; exact Nat.mod_lt _ (by decide)), hvb, hN16, hN17, hw, sr_4.far0 ge17⟩ fun x t a59 w12 hJ => ?_
   clear KR_11 kq_11 mq_11 K_4 H_4 sr_4 wr_4
   obtain ⟨F59, h7_59, h8_59, h48_59, h49_59, h50_59, h9_59, h10_59, h11_59, h17_59, h18_59, K_12, H_12, sr_12, wr_12, ⟨kv, mv, B17_12, ks_12, ms_12⟩, okx, ht⟩ := hJ
   change Code.wp _ _ _ _ _
   refine rg_list ?_
   refine wl_pq F59 (ex_mv h10_59) fun a60 u60 F60 h204_60 => ?_
   refine wl_pq F60 (ex_lda (u60.w h17_59) (ld_agg (n := 13) (xs := #[(.int .i64 x.kind), (.int .u64 0), (.string x.seg.title), (.string x.seg.uri), (.float .f64 (fb x.seg.e)), (.int .i64 x.seg.li), (.int .i64 x.seg.off), kv, mv, (.slice none 0 0), (.bool x.seg.disc), (.string x.seg.date), (.int .i64 x.num)]) (fun _ => by kernel_rfl) (fun _ => by kernel_rfl) B17_12 rfl (fun _ _ => by rw [Nat.zero_add] <;> rfl))) fun a61 u61 F61 (h205_61 : a61.tmps.getD 205 undef = (.agg #[(.int .i64 x.kind), (.int .u64 0), (.string x.seg.title), (.string x.seg.uri), (.float .f64 (fb x.seg.e)), (.int .i64 x.seg.li), (.int .i64 x.seg.off), kv, mv, (.slice none 0 0), (.bool x.seg.disc), (.string x.seg.date), (.int .i64 x.num)])) => ?_
   obtain ⟨gsx, hgsx⟩ : ∃ g, w12.heap.size = g := ⟨_, rfl⟩
   have ne_17_sx : g17 ≠ gsx := by have := B17_12.lt; omega
   have gesx : w0.heap.size ≤ gsx := by have := K_12.bel.size; omega
   obtain ⟨w13, hr13, Bsx_13, G13, hs13⟩ := bs_run (op := Instr.buildSlice 25 1 #[(0, (.agg #[(.int .i64 x.kind), (.int .u64 0), (.string x.seg.title), (.string x.seg.uri), (.float .f64 (fb x.seg.e)), (.int .i64 x.seg.li), (.int .i64 x.seg.off), kv, mv, (.slice none 0 0), (.bool x.seg.disc), (.string x.seg.date), (.int .i64 x.num)]))]) (n := 1) (T := 44) (cs := #[(.int .i64 x.kind), (.int .u64 0), (.string x.seg.title), (.string x.seg.uri), (.float .f64 (fb x.seg.e)), (.int .i64 x.seg.li), (.int .i64 x.seg.off), kv, mv, (.slice none 0 0), (.bool x.seg.disc), (.string x.seg.date), (.int .i64 x.num)]) hgsx (fun _ => by kernel_rfl)
   have B17_13 := B17_12.gn G13
   have K_13 := K_12.nw hw G13
   have H_13 := H_12.kt (Kt.of_none G13) (by decide)
   have sr_13 := sr_12.kt (Kt.of_none G13) (by decide) (by decide) (by decide)
   have wr_13 := wr_12.kt (Kt.of_none G13) (by decide)
   have ks_13 := ks_12.kt (Kt.of_none G13) (by decide)
   have ms_13 := ms_12.kt (Kt.of_none G13) (by decide)
   refine wl_pq F61 (ex_bs (vs := #[(0, (.agg #[(.int .i64 x.kind), (.int .u64 0), (.string x.seg.title), (.string x.seg.uri), (.float .f64 (fb x.seg.e)), (.int .i64 x.seg.li), (.int .i64 x.seg.off), kv, mv, (.slice none 0 0), (.bool x.seg.disc), (.string x.seg.date), (.int .i64 x.num)]))]) (by have e0 : a61.eval (.tmp 205) = (.agg #[(.int .i64 x.kind), (.int .u64 0), (.string x.seg.title), (.string x.seg.uri), (.float .f64 (fb x.seg.e)), (.int .i64 x.seg.li), (.int .i64 x.seg.off), kv, mv, (.slice none 0 0), (.bool x.seg.disc), (.string x.seg.date), (.int .i64 x.num)]) := h205_61; simp only [List.map_toArray, List.map_cons, List.map_nil, e0]) hr13) fun a62 u62 F62 (h206_62 : a62.tmps.getD 206 undef = (.slice (some ⟨gsx, 0, none⟩) 1 1)) => ?_
   clear K_12 H_12 sr_12 wr_12
   obtain ⟨v14, w14, hr14, sr_14, G14⟩ := STR.push (x := x) (kv := kv) (mv := mv) (ty := 25) (c := 1) sr_13 Bsx_13 ks_13 ms_13 (K_13.le hw) (by omega)
   have KR14 := sr_13.ktof G14
   have K_14 := sr_13.ktr K_13 hw (Nat.le_refl _) (by decide) G14
   have H_14 := H_13.kt KR14 (by decide)
   have wr_14 := wr_13.kt KR14 (by decide)
   have ks_14 := ks_13.kt KR14 (by decide)
   have ms_14 := ms_13.kt KR14 (by decide)
   refine wl_pq F62 (ex_app (u62.w (u61.w h204_60)) h206_62 hr14) fun a63 u63 F63 (h207_63 : a63.tmps.getD 207 undef = v14) => ?_
   clear KR14 K_13 H_13 sr_13 wr_13
   have h11_63 := u63.w (u62.w (u61.w (u60.w h11_59)))
   refine wl_pq F63 (ex_mv h11_63) fun a64 u64 F64 h208_64 => ?_
   have h18_64 := u64.w (u63.w (u62.w (u61.w (u60.w h18_59))))
   refine wl_pq F64 (ex_mv h18_64) fun a65 u65 F65 h209_65 => ?_
   obtain ⟨gbx, hgbx⟩ : ∃ g, w14.heap.size = g := ⟨_, rfl⟩
   have gebx : w0.heap.size ≤ gbx := by have := K_14.bel.size; omega
   obtain ⟨w15, hr15, Bbx_15, G15, hs15⟩ := bs_run (op := Instr.buildSlice 26 1 #[(0, (.bool t))]) (n := 1) (T := 4) (cs := #[(.bool t)]) hgbx (fun _ => by kernel_rfl)
   have K_15 := K_14.nw hw G15
   have H_15 := H_14.kt (Kt.of_none G15) (by decide)
   have sr_15 := sr_14.kt (Kt.of_none G15) (by decide) (by decide) (by decide)
   have wr_15 := wr_14.kt (Kt.of_none G15) (by decide)
   have ks_15 := ks_14.kt (Kt.of_none G15) (by decide)
   have ms_15 := ms_14.kt (Kt.of_none G15) (by decide)
   refine wl_pq F65 (ex_bs (vs := #[(0, (.bool t))]) (by have e0 : a65.eval (.tmp 209) = (.bool t) := h209_65; simp only [List.map_toArray, List.map_cons, List.map_nil, e0]) hr15) fun a66 u66 F66 (h210_66 : a66.tmps.getD 210 undef = (.slice (some ⟨gbx, 0, none⟩) 1 1)) => ?_
   clear K_14 H_14 sr_14 wr_14 hgbx
   obtain ⟨v16, w16, hr16, wr_16, G16⟩ := wr_15.push (f := Value.bool) (x := t) (ty := 26) (c := 1) (z := .bool false) (by_ := 1) Tryd.underlying26 (by kernel_rfl) rfl (by decide) (by decide) Bbx_15 rfl (K_15.le hw) (by rw [WinD.tolds_length]; omega)
   have KR16 := wr_15.ktof G16
   have K_16 := wr_15.ktr K_15 hw (Nat.le_refl _) (by decide) G16
   have H_16 := H_15.kt KR16 (by decide)
   have sr_16 := sr_15.kt KR16 (by decide) (by decide) (by decide)
   have ks_16 := ks_15.kt KR16 (by decide)
   have ms_16 := ms_15.kt KR16 (by decide)
   refine wl_pq F66 (ex_app (u66.w (u65.w h208_64)) h210_66 hr16) fun a67 u67 F67 (h211_67 : a67.tmps.getD 211 undef = v16) => ?_
   clear KR16 K_15 H_15 sr_15 wr_15
   have h207_67 := u67.w (u66.w (u65.w (u64.w h207_63)))
   refine wl_pq F67 (ex_as h207_67) fun a68 u68 F68 h10_68 => ?_
   refine wl_pq F68 (ex_as (u68.w h211_67)) fun a69 u69 F69 h11_69 => ?_
   change Code.wp _ _ _ _ _
   refine rg_list ?_
   have h50_69 := u69.w (u68.w (u67.w (u66.w (u65.w (u64.w (u63.w (u62.w (u61.w (u60.w h50_59)))))))))
   refine wl_pq F69 (ex_bin (vy := (.int .i64 1)) (v := (.int .i64 (j + 1 : Nat))) h50_69 rfl (bo_addn j 1 (by omega) _)) fun a70 u70 F70 h212_70 => ?_
   refine wl_pq F70 (ex_mv h212_70) fun a71 u71 F71 h50_71 => ?_
   have h48_71 := u71.w (u70.w (u69.w (u68.w (u67.w (u66.w (u65.w (u64.w (u63.w (u62.w (u61.w (u60.w h48_59)))))))))))
   have h49_71 := u71.w (u70.w (u69.w (u68.w (u67.w (u66.w (u65.w (u64.w (u63.w (u62.w (u61.w (u60.w h49_59)))))))))))
   have h7_71 := u71.w (u70.w (u69.w (u68.w (u67.w (u66.w (u65.w (u64.w (u63.w (u62.w (u61.w (u60.w h7_59)))))))))))
   have h8_71 := u71.w (u70.w (u69.w (u68.w (u67.w (u66.w (u65.w (u64.w (u63.w (u62.w (u61.w (u60.w h8_59)))))))))))
   have h9_71 := u71.w (u70.w (u69.w (u68.w (u67.w (u66.w (u65.w (u64.w (u63.w (u62.w (u61.w (u60.w h9_59)))))))))))
   have h10_71 := u71.w (u70.w (u69.w h10_68))
   exact hR _ _ ⟨v14, v16, (xs ++ [x]), F71, h50_71, h48_71, h49_71, h7_71, h8_71, h9_71, h10_71, (u71.w (u70.w h11_69)), K_16, (by rw [WinD.execs_snoc]; exact H_16), sr_16, (by rw [WinD.tolds_snoc, ← ht]; exact wr_16), (fun y hy => by rcases List.mem_append.1 hy with h | h; exact hx_4 y h; rw [List.mem_singleton.1 h]; exact okx), (by rw [List.length_append, hn_4]; rfl)⟩
 · clear K_3 H_3
   intro a30 w4 ⟨sv, wv, xs, F30, h50_30, h48_30, h49_30, h7_30, h8_30, h9_30, h10_30, h11_30, K_4, H_4, sr_4, wr_4, hx_4, hn_4⟩
   refine wp_sr ?_
   refine wl_pq F30 (ex_bin (v := (.bool false)) h50_30 h49_30 ((bo_ltn len len _).trans (by rw [decide_eq_false (by omega)]))) fun a31 u31 F31 h51_31 => ?_
   change Code.wp _ _ _ _ _
   refine wp_seq ?_
   refine wp_cond_false h51_31 ?_
   refine wp_exit ?_
   try simp only [Exit.then]
   refine inBlock_exit ?_
   change Code.wp _ _ _ _ _
   exact fs_tail (len := len) hw hO0 hl hx_4 hn_4 hp1 hp12 hwrp hd0 hev hlo F31 (u31.w h7_30) (u31.w h8_30) (u31.w h9_30) (u31.w h10_30) (u31.w h11_30) K_4 H_4 sr_4 wr_4
end Go.Proofs.YtdpebhlkgmopkaaDoor
