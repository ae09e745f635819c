/-
  The walks of FnWindow and FnWrite.
-/
import Derived.Test.YtlphcidpaidclaaGreatDoorWms
namespace Go.Proofs.YtlphcidpaidclaaGreatDoor
open Go.RowKit
set_option maxRecDepth 100000
theorem U32s.keep {w w' : World} {ao : Option Addr} {b off len cap : Nat} {zs : Nat → Nat} (h : U32s w ao b off len cap zs) (K : Kp [] w w') : U32s w' ao b off len cap zs :=
  ⟨fun hl => ⟨(h.at_ hl).1, Nat.lt_of_lt_of_le (h.at_ hl).2 K.size⟩, h.hlen, h.hcap, fun j hj => h.kp K hj, h.lt⟩

theorem win_walk {ao : Option Addr} {b off len cap n wv : Nat} {zs : Nat → Nat} {w0 : World} (h0 : 0 < len) (hwv : wv < 256) (hn : n < 4294967296) (hu : U32s w0 ao b off len cap zs) (ff64 : FF64) (ff32 : FF32) (htab : TabP w0) (hgt : 7 < w0.heap.size) :
    Calls Tryz.prog 4 #[.slice ao len cap, .int .u32 n, .int .u8 wv] w0 fun e w' => e = .returned (.bool true) ∧ Below w0.heap.size w0 w' := by
  refine calls_of_wp Tryz.func4 rfl ?_
  generalize hA : Act.mk _ _ = a0
  have F0 : Fz 59 a0 := by subst hA; exact ⟨by simp [Tryz.ntmps4], rfl⟩
  have h0_0 : a0.tmps.getD 0 undef = (.slice ao len cap) := by subst hA; exact fr_arg rfl
  have h1_0 : a0.tmps.getD 1 undef = (.int .u32 n) := by subst hA; exact fr_arg rfl
  have h2_0 : a0.tmps.getD 2 undef = (.int .u8 wv) := by subst hA; exact fr_arg rfl
  clear hA
  have Kp0 := Kp.refl [] w0
  have hlen := hu.hlen
  refine wp_seq ?_
  refine rg_list ?_
  refine wl_p (ex_as (v := (.bool false)) rfl) F0.l fun a1 u1 h6_1 => ?_
  have F1 := F0.pt u1
  change Code.wp _ _ _ _ _
  refine wp_seq ?_
  refine wp_seq ?_
  refine rg_list ?_
  refine wl_p (ex_mv (u1.w h0_0)) F1.l fun a2 u2 h11_2 => ?_
  have F2 := F1.pt u2
  refine wl_p (ex_bi (w' := w0) (args := #[(.slice ao len cap)]) (v := (.int .i64 len)) (arg1 h11_2) (by kernel_rfl)) F2.l fun a3 u3 h12_3 => ?_
  have F3 := F2.pt u3
  refine wl_p (ex_bin (vy := (.int .i64 2147483647)) (v := (.bool false)) h12_3 rfl ((bo_gtri (len : Int) 2147483647 _).trans (by rw [decide_eq_false (by omega)]))) F3.l fun a4 u4 h13_4 => ?_
  have F4 := F3.pt u4
  change Code.wp _ _ _ _ _
  refine wp_cond_false h13_4 ?_
  refine wp_skip ?_
  change Code.wp _ _ _ _ _
  refine wp_seq ?_
  refine wp_seq ?_
  refine rg_list ?_
  have h0_4 := u4.w (u3.w (u2.w (u1.w h0_0)))
  refine wl_p (ex_mv h0_4) F4.l fun a5 u5 h14_5 => ?_
  have F5 := F4.pt u5
  refine wl_p (ex_bi (w' := w0) (args := #[(.slice ao len cap)]) (v := (.int .i64 len)) (arg1 h14_5) (by kernel_rfl)) F5.l fun a6 u6 h15_6 => ?_
  have F6 := F5.pt u6
  refine wl_p (ex_bin (vy := (.int .i64 100)) (v := (.bool false)) h15_6 rfl ((bo_gtri (len : Int) 100 _).trans (by rw [decide_eq_false (by omega)]))) F6.l fun a7 u7 h16_7 => ?_
  have F7 := F6.pt u7
  refine wl_p (ex_mv h16_7) F7.l fun a8 u8 h17_8 => ?_
  have F8 := F7.pt u8
  have h0_8 := u8.w (u7.w (u6.w (u5.w h0_4)))
  refine wl_g (yl (e := 17) rfl h17_8) (ex_mv h0_8) F8.l fun a9 u9 h18_9 => ?_
  have F9 := F8.pt u9
  refine wl_g (yl (e := 17) rfl (u9.w h17_8)) (ex_bi (w' := w0) (args := #[(.slice ao len cap)]) (v := (.int .i64 len)) (arg1 h18_9) (by kernel_rfl)) F9.l fun a10 u10 h19_10 => ?_
  have F10 := F9.pt u10
  refine wl_g (yl (e := 17) rfl (u10.w (u9.w h17_8))) (ex_bin (vy := (.int .i64 0)) (v := (.bool false)) h19_10 rfl ((bo_eqi len 0 _).trans (by rw [decide_eq_false (by omega)]))) F10.l fun a11 u11 h20_11 => ?_
  have F11 := F10.pt u11
  have h17_11 := u11.w (u10.w (u9.w h17_8))
  refine wl_p (ex_pick (q := false) h17_11 h20_11) F11.l fun a12 u12 h21_12 => ?_
  have F12 := F11.pt u12
  change Code.wp _ _ _ _ _
  refine wp_cond_false h21_12 ?_
  refine wp_skip ?_
  change Code.wp _ _ _ _ _
  refine wp_seq ?_
  refine rg_list ?_
  have h0_12 := u12.w (u11.w (u10.w (u9.w h0_8)))
  refine wl_p (ex_mv h0_12) F12.l fun a13 u13 h22_13 => ?_
  have F13 := F12.pt u13
  have h1_13 := u13.w (u12.w (u11.w (u10.w (u9.w (u8.w (u7.w (u6.w (u5.w (u4.w (u3.w (u2.w (u1.w h1_0))))))))))))
  refine wl_p (ex_mv h1_13) F13.l fun a14 u14 h23_14 => ?_
  have F14 := F13.pt u14
  refine wl_cl (args := #[(.slice ao len cap), (.int .u32 n)]) (R := fun v w' => ∃ m sv segs, v = .agg (medC m none none sv) ∧ m.Ok ∧ SRow w' w0.heap.size sv segs ∧ (∀ s ∈ segs, SegOk s) ∧ segs.length = min len 12 ∧ w0.grownBy w' none) (ex_cl (fun _ _ => by kernel_rfl) (arg2 (u14.w h22_13) h23_14)) ((mediaOf_any hn (hu.keep Kp0)).mono fun _ _ ⟨m, sv, segs, h⟩ => ⟨_, h.1, m, sv, segs, rfl, h.2⟩) F14.l ?_
  rintro v w1 ⟨m, sv, segs, rfl, okm, R_1, hok, hsl, G1⟩
  have Kp1 := Kp0.new G1
  intro a15 u15 h24_15
  have F15 := F14.pt u15
  have hl12 : segs.length ≤ 12 := by omega
  obtain ⟨g7, hg7⟩ : ∃ g, w1.heap.size = g := ⟨_, rfl⟩
  have ge_7 : w0.heap.size ≤ g7 := by have := Kp1.size; omega
  obtain ⟨w2, hr2, B7_2, G2, hs2⟩ := al_run (op := Instr.alloc 44 true (.tuple #[])) (T := 44) (cs := #[(.int .i64 0), (.int .i64 0), (.int .u64 0), (.int .u64 0), (.int .i64 0), (.int .i64 0), (.bool false), (.bool false), (.bool false), (.pointer none), (.pointer none), (.slice none 0 0)]) hg7 (fun _ => by kernel_rfl)
  have Kp2 := Kp1.new G2
  have R_2 := R_1.gn G2
  refine wl_p (ex_al hr2) F15.l fun a16 u16 (h7_16 : a16.tmps.getD 7 undef = (.pointer (some ⟨g7, 0, none⟩))) => ?_
  have F16 := F15.pt u16
  obtain ⟨w3, hr3, B7_3, G3⟩ := sta_run (T := 44) (cs := #[(.int .i64 m.ver), (.int .i64 m.td), (.int .u64 m.seq), (.int .u64 m.dsq), (.int .i64 m.ty), (.int .i64 m.st), (.bool m.pre), (.bool m.ifr), (.bool m.clo), (pto none), (pto none), sv]) (fun _ => by kernel_rfl) B7_2 rfl rfl (by first | exact (one_medC _ _ _ _ (SRow.one R_2)) | simp [Value.oneCell'])
  have Kp3 := Kp2.set G3 (Or.inr ge_7)
  have R_3 := R_2.gk B7_2 (by decide) (by decide) (by decide) G3
  refine wl_n (ex_st h7_16 (u16.w h24_15) hr3) ?_
  change Code.wp _ _ _ _ _
  refine wp_seq ?_
  refine wp_seq ?_
  refine rg_list ?_
  refine wl_p (ex_fb 4 h7_16) F16.l fun a17 u17 h25_17 => ?_
  have F17 := F16.pt u17
  refine wl_p (ex_le (v := (.int .i64 m.ty)) h25_17 (B7_3.cell 4)) F17.l fun a18 u18 h26_18 => ?_
  have F18 := F17.pt u18
  refine wl_p (ex_bin (vy := (.int .i64 1)) (v := (.bool (decide (m.ty = 1)))) h26_18 rfl (bo_eqi m.ty 1 _)) F18.l fun a19 u19 h27_19 => ?_
  have F19 := F18.pt u19
  change Code.wp _ _ _ _ _
  by_cases hty1 : m.ty = 1
  · refine wp_cond_true (h27_19.trans (by rw [decide_eq_true hty1])) ?_
    refine wp_seq ?_
    refine rg_list ?_
    refine wl_p (ex_as (v := (.bool true)) rfl) F19.l fun a20 u20 h6_20 => ?_
    have F20 := F19.pt u20
    change Code.wp _ _ _ _ _
    refine wp_ret ?_
    try simp only [Exit.then, Exit.inBlock]
    exact bodyPost_ret (v := (.bool true)) ((results_tmp rfl _ _ _).trans (by rw [h6_20])) F20.defers ⟨rfl, Kp3.below⟩
  · refine wp_cond_false (h27_19.trans (by rw [decide_eq_false hty1])) ?_
    refine wp_skip ?_
    change Code.wp _ _ _ _ _
    have hty : m.ty = 0 ∨ m.ty = 2 := by have := okm.ty; omega
    refine wp_seq ?_
    refine rg_list ?_
    have h7_19 := u19.w (u18.w (u17.w h7_16))
    refine wl_p (ex_lda h7_19 (ld_agg (n := 12) (xs := #[(.int .i64 m.ver), (.int .i64 m.td), (.int .u64 m.seq), (.int .u64 m.dsq), (.int .i64 m.ty), (.int .i64 m.st), (.bool m.pre), (.bool m.ifr), (.bool m.clo), (pto none), (pto none), sv]) (fun _ => by kernel_rfl) (fun _ => by kernel_rfl) B7_3 rfl (fun _ _ => by rw [Nat.zero_add] <;> rfl))) F19.l fun a20 u20 (h28_20 : a20.tmps.getD 28 undef = (.agg #[(.int .i64 m.ver), (.int .i64 m.td), (.int .u64 m.seq), (.int .u64 m.dsq), (.int .i64 m.ty), (.int .i64 m.st), (.bool m.pre), (.bool m.ifr), (.bool m.clo), (pto none), (pto none), sv])) => ?_
    have F20 := F19.pt u20
    refine wl_cl (args := #[(.agg #[(.int .i64 m.ver), (.int .i64 m.td), (.int .u64 m.seq), (.int .u64 m.dsq), (.int .i64 m.ty), (.int .i64 m.st), (.bool m.pre), (.bool m.ifr), (.bool m.clo), (pto none), (pto none), sv])]) (R := fun v w' => ∃ iv kv mv, v = .agg (impC m iv kv mv 0) ∧ IRow w' w3.heap.size iv segs ∧ KeySl w' kv none ∧ MapSl w' mv none ∧ w3.grownBy w' none) (ex_cl (fun _ _ => by kernel_rfl) (arg1 h28_20)) ((toMedia_any okm R_3 hl12 (fun s hs => by have := (hok s hs).2; omega) (key := none) (map := none) (.nil) (.nil)).mono fun _ _ ⟨iv, kv, mv, h⟩ => ⟨_, h.1, iv, kv, mv, rfl, h.2⟩) F20.l ?_
    rintro v w4 ⟨iv, kv, mv, rfl, I_4, ks_4, ms_4, G4⟩
    have B7_4 := B7_3.gn G4
    have Kp4 := Kp3.new G4
    have R_4 := R_3.gn G4
    intro a21 u21 h29_21
    have F21 := F20.pt u21
    obtain ⟨g8, hg8⟩ : ∃ g, w4.heap.size = g := ⟨_, rfl⟩
    have ne_7_8 : g7 ≠ g8 := by have := B7_4.lt; omega
    have ge_8 : w0.heap.size ≤ g8 := by have := Kp4.size; omega
    obtain ⟨w5, hr5, B8_5, G5, hs5⟩ := al_run (op := Instr.alloc 36 true (.tuple #[])) (T := 36) (cs := #[(.float .f64 0), (.int .u64 0), (.slice none 0 0), (.string ⟨#[]⟩), (.bool false), (.bool false), (.int .i64 0), (.int .u64 0), (.float .f64 0), (.bool false), (.int .i64 0), (.slice none 0 0), (.slice none 0 0), (.int .i64 0)]) hg8 (fun _ => by kernel_rfl)
    have B7_5 := B7_4.gn G5
    have Kp5 := Kp4.new G5
    have R_5 := R_4.gn G5
    have I_5 := I_4.gn G5
    have ks_5 := ks_4.gn G5
    have ms_5 := ms_4.gn G5
    refine wl_p (ex_al hr5) F21.l fun a22 u22 (h8_22 : a22.tmps.getD 8 undef = (.pointer (some ⟨g8, 0, none⟩))) => ?_
    have F22 := F21.pt u22
    clear I_4
    obtain ⟨w6, hr6, B8_6, G6⟩ := sta_run (T := 36) (cs := #[(.float .f64 (fn m.td)), (.int .u64 m.seq), iv, (.string ⟨#[]⟩), (.bool m.ifr), (.bool m.clo), (.int .i64 m.ty), (.int .u64 m.dsq), (.float .f64 (fb m.st)), (.bool m.pre), (.int .i64 m.ver), kv, mv, (.int .i64 0)]) (fun _ => by kernel_rfl) B8_5 rfl rfl (by first | exact (one_impC (IRow.one I_5) ks_5 ms_5) | simp [Value.oneCell'])
    have B7_6 := B7_5.gk G6 ne_7_8
    have Kp6 := Kp5.set G6 (Or.inr ge_8)
    have R_6 := R_5.gk B8_5 (by decide) (by decide) (by decide) G6
    have I_6 := I_5.gk B8_5 (by decide) (by decide) (by decide) G6
    have ks_6 := ks_5.gk2 B8_5 (by decide) G6
    have ms_6 := ms_5.gk2 B8_5 (by decide) G6
    refine wl_n (ex_st h8_22 (u22.w h29_21) hr6) ?_
    clear I_5
    change Code.wp _ _ _ _ _
    refine wp_seq ?_
    refine rg_list ?_
    have h2_22 := u22.w (u21.w (u20.w (u19.w (u18.w (u17.w (u16.w (u15.w (u14.w (u13.w (u12.w (u11.w (u10.w (u9.w (u8.w (u7.w (u6.w (u5.w (u4.w (u3.w (u2.w (u1.w h2_0)))))))))))))))))))))
    refine wl_p (ex_mv h2_22) F22.l fun a23 u23 h30_23 => ?_
    have F23 := F22.pt u23
    refine wl_p (ex_conv (vx := (.int .u8 wv)) (v := (.int .i64 wv)) h30_23 (cv_5_3 wv hwv _)) F23.l fun a24 u24 h31_24 => ?_
    have F24 := F23.pt u24
    have h7_24 := u24.w (u23.w (u22.w (u21.w (u20.w h7_19))))
    refine wl_p (ex_fb 11 h7_24) F24.l fun a25 u25 h32_25 => ?_
    have F25 := F24.pt u25
    refine wl_p (ex_le (v := sv) h32_25 (B7_6.cell 11)) F25.l fun a26 u26 h33_26 => ?_
    have F26 := F25.pt u26
    refine wl_p (ex_bi (w' := w6) (args := #[sv]) (v := (.int .i64 segs.length)) (arg1 h33_26) (R_6.len _)) F26.l fun a27 u27 h34_27 => ?_
    have F27 := F26.pt u27
    refine wl_p (ex_bin (vy := (.int .i64 1)) (v := (.int .i64 (segs.length + 1 : Nat))) h34_27 rfl (bo_addi3 segs.length 1 _ (by omega))) F27.l fun a28 u28 h35_28 => ?_
    have F28 := F27.pt u28
    have h31_28 := u28.w (u27.w (u26.w (u25.w h31_24)))
    refine wl_p (ex_bin (v := (.int .i64 (wv % (segs.length + 1) : Nat))) h31_28 h35_28 (bo_remi wv (segs.length + 1) (Nat.succ_pos _) _)) F28.l fun a29 u29 h36_29 => ?_
    have F29 := F28.pt u29
    have h8_29 := u29.w (u28.w (u27.w (u26.w (u25.w (u24.w (u23.w h8_22))))))
    refine wl_p (ex_fb 13 h8_29) F29.l fun a30 u30 h37_30 => ?_
    have F30 := F29.pt u30
    obtain ⟨w7, hr7, B8_7, G7⟩ := st_run (T := 3) (o := 13) (v := (.int .i64 (wv % (segs.length + 1) : Nat))) (cs' := #[(.float .f64 (fn m.td)), (.int .u64 m.seq), iv, (.string ⟨#[]⟩), (.bool m.ifr), (.bool m.clo), (.int .i64 m.ty), (.int .u64 m.dsq), (.float .f64 (fb m.st)), (.bool m.pre), (.int .i64 m.ver), kv, mv, (.int .i64 (wv % (segs.length + 1) : Nat))]) (fun _ => by kernel_rfl) B8_6 rfl (Nat.le_of_ble_eq_true rfl) rfl
    have B7_7 := B7_6.gk G7 ne_7_8
    have Kp7 := Kp6.set G7 (Or.inr ge_8)
    have R_7 := R_6.gk B8_6 (by decide) (by decide) (by decide) G7
    have I_7 := I_6.gk B8_6 (by decide) (by decide) (by decide) G7
    have ks_7 := ks_6.gk2 B8_6 (by decide) G7
    have ms_7 := ms_6.gk2 B8_6 (by decide) G7
    refine wl_n (ex_st h37_30 (u30.w h36_29) hr7) ?_
    clear I_6
    change Code.wp _ _ _ _ _
    have hwin : wv % (segs.length + 1) ≤ segs.length := Nat.le_of_lt_succ (Nat.mod_lt wv (Nat.succ_pos segs.length))
    generalize wv % (segs.length + 1) = win at *
    refine wp_seq ?_
    refine wp_seq ?_
    refine rg_list ?_
    refine wl_p (ex_fb 13 (u30.w h8_29)) F30.l fun a31 u31 h38_31 => ?_
    have F31 := F30.pt u31
    refine wl_p (ex_le (v := (.int .i64 win)) h38_31 (B8_7.cell 13)) F31.l fun a32 u32 h39_32 => ?_
    have F32 := F31.pt u32
    refine wl_p (ex_bin (vy := (.int .i64 0)) (v := (.bool (decide (0 < win)))) h39_32 rfl (bo_gtn3 win _)) F32.l fun a33 u33 h40_33 => ?_
    have F33 := F32.pt u33
    change Code.wp _ _ _ _ _
    by_cases hw : 0 < win
    · refine wp_cond_true (h40_33.trans (by rw [decide_eq_true hw])) ?_
      refine rg_list ?_
      have h7_33 := u33.w (u32.w (u31.w (u30.w (u29.w (u28.w (u27.w (u26.w (u25.w h7_24))))))))
      refine wl_p (ex_fb 11 h7_33) F33.l fun a34 u34 h41_34 => ?_
      have F34 := F33.pt u34
      refine wl_p (ex_le (v := sv) h41_34 (B7_7.cell 11)) F34.l fun a35 u35 h42_35 => ?_
      have F35 := F34.pt u35
      have h8_35 := u35.w (u34.w (u33.w (u32.w (u31.w (u30.w h8_29)))))
      refine wl_p (ex_fb 13 h8_35) F35.l fun a36 u36 h43_36 => ?_
      have F36 := F35.pt u36
      refine wl_p (ex_le (v := (.int .i64 win)) h43_36 (B8_7.cell 13)) F36.l fun a37 u37 h44_37 => ?_
      have F37 := F36.pt u37
      obtain ⟨v45, hsl45, R2_7⟩ := R_7.slice hwin hw
      refine wl_p (ex_sl (v := v45) (u37.w (u36.w h42_35)) rfl (congrArg some h44_37) rfl (hsl45 _)) F37.l fun a38 u38 h45_38 => ?_
      have F38 := F37.pt u38
      have h7_38 := u38.w (u37.w (u36.w (u35.w (u34.w h7_33))))
      refine wl_p (ex_fb 11 h7_38) F38.l fun a39 u39 h46_39 => ?_
      have F39 := F38.pt u39
      obtain ⟨w8, hr8, B7_8, G8⟩ := st_run (T := 42) (o := 11) (v := v45) (cs' := #[(.int .i64 m.ver), (.int .i64 m.td), (.int .u64 m.seq), (.int .u64 m.dsq), (.int .i64 m.ty), (.int .i64 m.st), (.bool m.pre), (.bool m.ifr), (.bool m.clo), (pto none), (pto none), v45]) (fun _ => by kernel_rfl) B7_7 R2_7.one (Nat.le_of_ble_eq_true rfl) rfl
      have B8_8 := B8_7.gk G8 (Ne.symm ne_7_8)
      have Kp8 := Kp7.set G8 (Or.inr ge_7)
      have R_8 := R_7.gk B7_7 (by decide) (by decide) (by decide) G8
      have I_8 := I_7.gk B7_7 (by decide) (by decide) (by decide) G8
      have ks_8 := ks_7.gk2 B7_7 (by decide) G8
      have ms_8 := ms_7.gk2 B7_7 (by decide) G8
      have R2_8 := R2_7.gk B7_7 (by decide) (by decide) (by decide) G8
      refine wl_n (ex_st h46_39 (u39.w h45_38) hr8) ?_
      clear I_7 R2_7
      change Code.wp _ _ _ _ _
      refine wp_seq ?_
      refine rg_list ?_
      have h8_39 := u39.w (u38.w (u37.w (u36.w h8_35)))
      refine wl_p (ex_lda h8_39 (ld_agg (n := 14) (xs := #[(.float .f64 (fn m.td)), (.int .u64 m.seq), iv, (.string ⟨#[]⟩), (.bool m.ifr), (.bool m.clo), (.int .i64 m.ty), (.int .u64 m.dsq), (.float .f64 (fb m.st)), (.bool m.pre), (.int .i64 m.ver), kv, mv, (.int .i64 win)]) (fun _ => by kernel_rfl) (fun _ => by kernel_rfl) B8_8 rfl (fun _ _ => by rw [Nat.zero_add] <;> rfl))) F39.l fun a40 u40 (h48_40 : a40.tmps.getD 48 undef = (.agg #[(.float .f64 (fn m.td)), (.int .u64 m.seq), iv, (.string ⟨#[]⟩), (.bool m.ifr), (.bool m.clo), (.int .i64 m.ty), (.int .u64 m.dsq), (.float .f64 (fb m.st)), (.bool m.pre), (.int .i64 m.ver), kv, mv, (.int .i64 win)])) => ?_
      have F40 := F39.pt u40
      have hwm : Calls Tryz.prog 7 #[.agg (impC m iv kv mv win), .bool false] w8 fun e w' => e = .returned (.tuple #[.string (bs (specX m.ver m.ty m.seq m.td m.st m.dsq m.pre m.ifr m.clo none none (segs.take win))), .bool true]) ∧ w8.grownBy w' none := by
        have h := wm_spec (win := win) okm hty I_8 ks_8 ms_8 hl12 hok hwin ff64 ff32 (htab.keep fun k hk => Kp8.block k (Nat.lt_of_le_of_lt hk hgt) (by simp)) (by have := Kp8.size; omega)
        rw [show written win none segs = segs.take win from by unfold written; rw [if_neg (by omega)]; exact map_id_of fun _ => rfl] at h
        exact h
      refine wl_cl (args := #[(.agg #[(.float .f64 (fn m.td)), (.int .u64 m.seq), iv, (.string ⟨#[]⟩), (.bool m.ifr), (.bool m.clo), (.int .i64 m.ty), (.int .u64 m.dsq), (.float .f64 (fb m.st)), (.bool m.pre), (.int .i64 m.ver), kv, mv, (.int .i64 win)]), (.bool false)]) (R := fun v w' => v = .tuple #[.string (bs (specX m.ver m.ty m.seq m.td m.st m.dsq m.pre m.ifr m.clo none none (segs.take win))), .bool true] ∧ w8.grownBy w' none) (ex_cl (fun _ _ => by kernel_rfl) (arg2 h48_40 rfl)) ((hwm).mono fun _ _ h => ⟨_, h.1, rfl, h.2⟩) F40.l ?_
      rintro v w9 ⟨rfl, G9⟩
      have B7_9 := B7_8.gn G9
      have B8_9 := B8_8.gn G9
      have Kp9 := Kp8.new G9
      have R_9 := R_8.gn G9
      have I_9 := I_8.gn G9
      have ks_9 := ks_8.gn G9
      have ms_9 := ms_8.gn G9
      have R2_9 := R2_8.gn G9
      intro a41 u41 h49_41
      have F41 := F40.pt u41
      clear I_8 R2_8
      clear hwm
      refine wl_p (ex_mv h49_41) F41.l fun a42 u42 h47_42 => ?_
      have F42 := F41.pt u42
      refine wl_p (ex_ext (vs := #[(.string (bs (specX m.ver m.ty m.seq m.td m.st m.dsq m.pre m.ifr m.clo none none (segs.take win)))), (.bool true)]) (v := (.string (bs (specX m.ver m.ty m.seq m.td m.st m.dsq m.pre m.ifr m.clo none none (segs.take win))))) h47_42 rfl) F42.l fun a43 u43 h50_43 => ?_
      have F43 := F42.pt u43
      refine wl_p (ex_ext (vs := #[(.string (bs (specX m.ver m.ty m.seq m.td m.st m.dsq m.pre m.ifr m.clo none none (segs.take win)))), (.bool true)]) (v := (.bool true)) (u43.w h47_42) rfl) F43.l fun a44 u44 h51_44 => ?_
      have F44 := F43.pt u44
      refine wl_p (ex_as (u44.w h50_43)) F44.l fun a45 u45 h9_45 => ?_
      have F45 := F44.pt u45
      refine wl_p (ex_as (u45.w h51_44)) F45.l fun a46 u46 h10_46 => ?_
      have F46 := F45.pt u46
      change Code.wp _ _ _ _ _
      refine wp_seq ?_
      refine rg_list ?_
      refine wl_p (ex_mv h10_46) F46.l fun a47 u47 h52_47 => ?_
      have F47 := F46.pt u47
      refine wl_p (ex_mv h52_47) F47.l fun a48 u48 h53_48 => ?_
      have F48 := F47.pt u48
      have h9_48 := u48.w (u47.w (u46.w h9_45))
      refine wl_g (yl (e := 53) rfl h53_48) (ex_mv h9_48) F48.l fun a49 u49 h54_49 => ?_
      have F49 := F48.pt u49
      have h7_49 := u49.w (u48.w (u47.w (u46.w (u45.w (u44.w (u43.w (u42.w (u41.w (u40.w (u39.w h7_38))))))))))
      refine wl_g (yl (e := 53) rfl (u49.w h53_48)) (ex_lda h7_49 (ld_agg (n := 12) (xs := #[(.int .i64 m.ver), (.int .i64 m.td), (.int .u64 m.seq), (.int .u64 m.dsq), (.int .i64 m.ty), (.int .i64 m.st), (.bool m.pre), (.bool m.ifr), (.bool m.clo), (pto none), (pto none), v45]) (fun _ => by kernel_rfl) (fun _ => by kernel_rfl) B7_9 rfl (fun _ _ => by rw [Nat.zero_add] <;> rfl))) F49.l fun a50 u50 (h55_50 : a50.tmps.getD 55 undef = (.agg #[(.int .i64 m.ver), (.int .i64 m.td), (.int .u64 m.seq), (.int .u64 m.dsq), (.int .i64 m.ty), (.int .i64 m.st), (.bool m.pre), (.bool m.ifr), (.bool m.clo), (pto none), (pto none), v45])) => ?_
      have F50 := F49.pt u50
      refine wl_gc (yl (e := 53) rfl (u50.w (u49.w h53_48))) (args := #[(.agg #[(.int .i64 m.ver), (.int .i64 m.td), (.int .u64 m.seq), (.int .u64 m.dsq), (.int .i64 m.ty), (.int .i64 m.st), (.bool m.pre), (.bool m.ifr), (.bool m.clo), (pto none), (pto none), v45]), (.bool false), (.int .u32 0)]) (R := fun v w' => v = .string (bs (specX m.ver m.ty m.seq m.td m.st m.dsq m.pre m.ifr m.clo none none (segs.take win))) ∧ w9.grownBy w' none) (ex_cl (fun _ _ => by kernel_rfl) (arg3 h55_50 rfl rfl)) ((specWrite_any okm hty R2_9 (fun s hs => hok s (List.mem_of_mem_take hs)) (by rw [List.length_take]; omega) (key := none) (map := none) (.nil) (.nil)).mono fun _ _ h => ⟨_, h.1, rfl, h.2⟩) F50.l ?_
      rintro v w10 ⟨rfl, G10⟩
      have B7_10 := B7_9.gn G10
      have B8_10 := B8_9.gn G10
      have Kp10 := Kp9.new G10
      have R_10 := R_9.gn G10
      have I_10 := I_9.gn G10
      have ks_10 := ks_9.gn G10
      have ms_10 := ms_9.gn G10
      have R2_10 := R2_9.gn G10
      intro a51 u51 h56_51
      have F51 := F50.pt u51
      clear I_9 R2_9
      have h53_51 := u51.w (u50.w (u49.w h53_48))
      refine wl_g (yl (e := 53) rfl h53_51) (ex_bin (v := (.bool true)) (u51.w (u50.w h54_49)) h56_51 (bo_streq _ _)) F51.l fun a52 u52 h57_52 => ?_
      have F52 := F51.pt u52
      refine wl_p (ex_pick (q := true) (u52.w h53_51) h57_52) F52.l fun a53 u53 h58_53 => ?_
      have F53 := F52.pt u53
      refine wl_p (ex_as h58_53) F53.l fun a54 u54 h6_54 => ?_
      have F54 := F53.pt u54
      change Code.wp _ _ _ _ _
      refine wp_ret ?_
      try simp only [Exit.then, Exit.inBlock]
      exact bodyPost_ret (v := (.bool true)) ((results_tmp rfl _ _ _).trans (by rw [h6_54])) F54.defers ⟨rfl, Kp10.below⟩
    · refine wp_cond_false (h40_33.trans (by rw [decide_eq_false hw])) ?_
      refine wp_skip ?_
      change Code.wp _ _ _ _ _
      refine wp_seq ?_
      refine rg_list ?_
      have h8_33 := u33.w (u32.w (u31.w (u30.w h8_29)))
      refine wl_p (ex_lda h8_33 (ld_agg (n := 14) (xs := #[(.float .f64 (fn m.td)), (.int .u64 m.seq), iv, (.string ⟨#[]⟩), (.bool m.ifr), (.bool m.clo), (.int .i64 m.ty), (.int .u64 m.dsq), (.float .f64 (fb m.st)), (.bool m.pre), (.int .i64 m.ver), kv, mv, (.int .i64 win)]) (fun _ => by kernel_rfl) (fun _ => by kernel_rfl) B8_7 rfl (fun _ _ => by rw [Nat.zero_add] <;> rfl))) F33.l fun a34 u34 (h48_34 : a34.tmps.getD 48 undef = (.agg #[(.float .f64 (fn m.td)), (.int .u64 m.seq), iv, (.string ⟨#[]⟩), (.bool m.ifr), (.bool m.clo), (.int .i64 m.ty), (.int .u64 m.dsq), (.float .f64 (fb m.st)), (.bool m.pre), (.int .i64 m.ver), kv, mv, (.int .i64 win)])) => ?_
      have F34 := F33.pt u34
      have hwm : Calls Tryz.prog 7 #[.agg (impC m iv kv mv win), .bool false] w7 fun e w' => e = .returned (.tuple #[.string (bs (specX m.ver m.ty m.seq m.td m.st m.dsq m.pre m.ifr m.clo none none segs)), .bool true]) ∧ w7.grownBy w' none := by
        have h := wm_spec (win := win) okm hty I_7 ks_7 ms_7 hl12 hok hwin ff64 ff32 (htab.keep fun k hk => Kp7.block k (Nat.lt_of_le_of_lt hk hgt) (by simp)) (by have := Kp7.size; omega)
        rw [show written win none segs = segs from by unfold written; rw [if_pos (by omega)]; exact map_id_of fun _ => rfl] at h
        exact h
      refine wl_cl (args := #[(.agg #[(.float .f64 (fn m.td)), (.int .u64 m.seq), iv, (.string ⟨#[]⟩), (.bool m.ifr), (.bool m.clo), (.int .i64 m.ty), (.int .u64 m.dsq), (.float .f64 (fb m.st)), (.bool m.pre), (.int .i64 m.ver), kv, mv, (.int .i64 win)]), (.bool false)]) (R := fun v w' => v = .tuple #[.string (bs (specX m.ver m.ty m.seq m.td m.st m.dsq m.pre m.ifr m.clo none none segs)), .bool true] ∧ w7.grownBy w' none) (ex_cl (fun _ _ => by kernel_rfl) (arg2 h48_34 rfl)) ((hwm).mono fun _ _ h => ⟨_, h.1, rfl, h.2⟩) F34.l ?_
      rintro v w8 ⟨rfl, G8⟩
      have B7_8 := B7_7.gn G8
      have B8_8 := B8_7.gn G8
      have Kp8 := Kp7.new G8
      have R_8 := R_7.gn G8
      have I_8 := I_7.gn G8
      have ks_8 := ks_7.gn G8
      have ms_8 := ms_7.gn G8
      intro a35 u35 h49_35
      have F35 := F34.pt u35
      clear I_7
      clear hwm
      refine wl_p (ex_mv h49_35) F35.l fun a36 u36 h47_36 => ?_
      have F36 := F35.pt u36
      refine wl_p (ex_ext (vs := #[(.string (bs (specX m.ver m.ty m.seq m.td m.st m.dsq m.pre m.ifr m.clo none none segs))), (.bool true)]) (v := (.string (bs (specX m.ver m.ty m.seq m.td m.st m.dsq m.pre m.ifr m.clo none none segs)))) h47_36 rfl) F36.l fun a37 u37 h50_37 => ?_
      have F37 := F36.pt u37
      refine wl_p (ex_ext (vs := #[(.string (bs (specX m.ver m.ty m.seq m.td m.st m.dsq m.pre m.ifr m.clo none none segs))), (.bool true)]) (v := (.bool true)) (u37.w h47_36) rfl) F37.l fun a38 u38 h51_38 => ?_
      have F38 := F37.pt u38
      refine wl_p (ex_as (u38.w h50_37)) F38.l fun a39 u39 h9_39 => ?_
      have F39 := F38.pt u39
      refine wl_p (ex_as (u39.w h51_38)) F39.l fun a40 u40 h10_40 => ?_
      have F40 := F39.pt u40
      change Code.wp _ _ _ _ _
      refine wp_seq ?_
      refine rg_list ?_
      refine wl_p (ex_mv h10_40) F40.l fun a41 u41 h52_41 => ?_
      have F41 := F40.pt u41
      refine wl_p (ex_mv h52_41) F41.l fun a42 u42 h53_42 => ?_
      have F42 := F41.pt u42
      have h9_42 := u42.w (u41.w (u40.w h9_39))
      refine wl_g (yl (e := 53) rfl h53_42) (ex_mv h9_42) F42.l fun a43 u43 h54_43 => ?_
      have F43 := F42.pt u43
      have h7_43 := u43.w (u42.w (u41.w (u40.w (u39.w (u38.w (u37.w (u36.w (u35.w (u34.w (u33.w (u32.w (u31.w (u30.w (u29.w (u28.w (u27.w (u26.w (u25.w h7_24))))))))))))))))))
      refine wl_g (yl (e := 53) rfl (u43.w h53_42)) (ex_lda h7_43 (ld_agg (n := 12) (xs := #[(.int .i64 m.ver), (.int .i64 m.td), (.int .u64 m.seq), (.int .u64 m.dsq), (.int .i64 m.ty), (.int .i64 m.st), (.bool m.pre), (.bool m.ifr), (.bool m.clo), (pto none), (pto none), sv]) (fun _ => by kernel_rfl) (fun _ => by kernel_rfl) B7_8 rfl (fun _ _ => by rw [Nat.zero_add] <;> rfl))) F43.l fun a44 u44 (h55_44 : a44.tmps.getD 55 undef = (.agg #[(.int .i64 m.ver), (.int .i64 m.td), (.int .u64 m.seq), (.int .u64 m.dsq), (.int .i64 m.ty), (.int .i64 m.st), (.bool m.pre), (.bool m.ifr), (.bool m.clo), (pto none), (pto none), sv])) => ?_
      have F44 := F43.pt u44
      refine wl_gc (yl (e := 53) rfl (u44.w (u43.w h53_42))) (args := #[(.agg #[(.int .i64 m.ver), (.int .i64 m.td), (.int .u64 m.seq), (.int .u64 m.dsq), (.int .i64 m.ty), (.int .i64 m.st), (.bool m.pre), (.bool m.ifr), (.bool m.clo), (pto none), (pto none), sv]), (.bool false), (.int .u32 0)]) (R := fun v w' => v = .string (bs (specX m.ver m.ty m.seq m.td m.st m.dsq m.pre m.ifr m.clo none none segs)) ∧ w8.grownBy w' none) (ex_cl (fun _ _ => by kernel_rfl) (arg3 h55_44 rfl rfl)) ((specWrite_any okm hty R_8 hok hl12 (key := none) (map := none) (.nil) (.nil)).mono fun _ _ h => ⟨_, h.1, rfl, h.2⟩) F44.l ?_
      rintro v w9 ⟨rfl, G9⟩
      have B7_9 := B7_8.gn G9
      have B8_9 := B8_8.gn G9
      have Kp9 := Kp8.new G9
      have R_9 := R_8.gn G9
      have I_9 := I_8.gn G9
      have ks_9 := ks_8.gn G9
      have ms_9 := ms_8.gn G9
      intro a45 u45 h56_45
      have F45 := F44.pt u45
      clear I_8
      have h53_45 := u45.w (u44.w (u43.w h53_42))
      refine wl_g (yl (e := 53) rfl h53_45) (ex_bin (v := (.bool true)) (u45.w (u44.w h54_43)) h56_45 (bo_streq _ _)) F45.l fun a46 u46 h57_46 => ?_
      have F46 := F45.pt u46
      refine wl_p (ex_pick (q := true) (u46.w h53_45) h57_46) F46.l fun a47 u47 h58_47 => ?_
      have F47 := F46.pt u47
      refine wl_p (ex_as h58_47) F47.l fun a48 u48 h6_48 => ?_
      have F48 := F47.pt u48
      change Code.wp _ _ _ _ _
      refine wp_ret ?_
      try simp only [Exit.then, Exit.inBlock]
      exact bodyPost_ret (v := (.bool true)) ((results_tmp rfl _ _ _).trans (by rw [h6_48])) F48.defers ⟨rfl, Kp9.below⟩
noncomputable def wrB : Code := Tryz.f5.body.getD .skip
structure JF (w0 : World) (n : Nat) (lock lead : Bool) (m : MedD) (segs : List SegD) (g9 : Nat) (a : Act) (w : World) : Prop where
  fz : Fz 70 a
  t1 : a.tmps.getD 1 undef = .int .u32 n
  t2 : a.tmps.getD 2 undef = .bool lock
  t3 : a.tmps.getD 3 undef = .bool lead
  t9 : a.tmps.getD 9 undef = .pointer (some ⟨g9, 0, none⟩)
  b9 : ∃ kp mp sv key map, Blk w g9 44 (medC m kp mp sv) ∧ SRow w w0.heap.size sv segs ∧ SKey w kp key ∧ SMap w mp map
  kp : Kp [] w0 w
  h9 : w0.heap.size ≤ g9
section
variable {w00 w0 w : World} {n : Nat} {lock lead : Bool} {m : MedD} {segs : List SegD} {g9 g10 j : Nat} {a0 : Act} {kp mp : Option Nat} {key : Option KeyD} {map : Option MapD} {sv : Value} {Q : Exit → Act → World → Prop}

theorem wr_lock (hn : n < 4294967296) (hJ : JF w00 n lock lead m segs g9 a0 w0) (hK : ∀ a' w', JF w00 n lock lead m segs g9 a' w' → Q .normal a' w') : (cat [1, 1, 1, 1, 1, 0] wrB).wp Tryz.prog Q a0 w0 := by
  obtain ⟨F0, h1_0, h2_0, h3_0, h9_0, ⟨kp, mp, sv, key, map, B9_0, R_0, sk_0, sm_0⟩, Kp0, hg9⟩ := hJ
  change Code.wp _ (Code.seq (Code.region _ _ _) (Code.cond _ _ _)) _ _ _
  refine wp_seq ?_
  refine rg_list ?_
  refine wl_p (ex_mv h2_0) F0.l fun a1 u1 h27_1 => ?_
  have F1 := F0.pt u1
  change Code.wp _ _ _ _ _
  cases lock
  · refine wp_cond_false h27_1 ?_
    refine wp_skip ?_
    exact hK _ _ ⟨F1, (u1.w h1_0), (u1.w h2_0), (u1.w h3_0), (u1.w h9_0), ⟨kp, mp, sv, key, map, B9_0, R_0, sk_0, sm_0⟩, Kp0, hg9⟩
  · refine wp_cond_true h27_1 ?_
    refine rg_list ?_
    refine wl_p (ex_mv (u1.w h1_0)) F1.l fun a2 u2 h28_2 => ?_
    have F2 := F1.pt u2
    obtain ⟨r29_2, b29_2, e29_2⟩ := u_shr n 3 hn
    refine wl_p (ex_bin (vy := (.int .u64 3)) (v := (.int .u32 r29_2)) h28_2 rfl (e29_2 _ _ _)) F2.l fun a3 u3 h29_3 => ?_
    have F3 := F2.pt u3
    refine wl_cl (args := #[(.int .u32 r29_2)]) (R := fun v w' => ∃ kp k, v = pto kp ∧ SKey w' kp k ∧ w0.grownBy w' none) (ex_cl (fun _ _ => by kernel_rfl) (arg1 h29_3)) ((keyOf_any (r29_2 : Int) (by omega) (by have := b29_2; omega) w0).mono fun _ _ ⟨kp, k, h1, h2, h3, _⟩ => ⟨_, h1, kp, k, rfl, h2, h3⟩) F3.l ?_
    rintro v w1 ⟨kp2, key2, rfl, sk2_1, G1⟩
    have B9_1 := B9_0.gn G1
    have Kp1 := Kp0.new G1
    have R_1 := R_0.gn G1
    have sk_1 := sk_0.gn G1
    have sm_1 := sm_0.gn G1
    intro a4 u4 h30_4
    have F4 := F3.pt u4
    have h9_4 := u4.w (u3.w (u2.w (u1.w h9_0)))
    refine wl_p (ex_fb 9 h9_4) F4.l fun a5 u5 h31_5 => ?_
    have F5 := F4.pt u5
    obtain ⟨w2, hr2, B9_2, G2⟩ := st_run (T := 40) (o := 9) (v := (pto kp2)) (cs' := #[(.int .i64 m.ver), (.int .i64 m.td), (.int .u64 m.seq), (.int .u64 m.dsq), (.int .i64 m.ty), (.int .i64 m.st), (.bool m.pre), (.bool m.ifr), (.bool m.clo), (pto kp2), (pto mp), sv]) (fun _ => by kernel_rfl) B9_1 rfl (Nat.le_of_ble_eq_true rfl) rfl
    have Kp2 := Kp1.set G2 (Or.inr hg9)
    have R_2 := R_1.gk B9_1 (by decide) (by decide) (by decide) G2
    have sk_2 := sk_1.gk B9_1 (by decide) G2
    have sm_2 := sm_1.gk B9_1 (by decide) G2
    have sk2_2 := sk2_1.gk B9_1 (by decide) G2
    refine wl_n (ex_st h31_5 (u5.w h30_4) hr2) ?_
    clear sk2_1
    have h1_5 := u5.w (u4.w (u3.w (u2.w (u1.w h1_0))))
    have h2_5 := u5.w (u4.w (u3.w (u2.w (u1.w h2_0))))
    have h3_5 := u5.w (u4.w (u3.w (u2.w (u1.w h3_0))))
    exact hK _ _ ⟨F5, h1_5, h2_5, h3_5, (u5.w h9_4), ⟨kp2, mp, sv, key2, map, B9_2, R_2, sk2_2, sm_2⟩, Kp2, hg9⟩
theorem wr_lead (hn : n < 4294967296) (hJ : JF w00 n lock lead m segs g9 a0 w0) (hK : ∀ a' w', JF w00 n lock lead m segs g9 a' w' → Q .normal a' w') : (cat [1, 1, 1, 1, 1, 1, 0] wrB).wp Tryz.prog Q a0 w0 := by
  obtain ⟨F0, h1_0, h2_0, h3_0, h9_0, ⟨kp, mp, sv, key, map, B9_0, R_0, sk_0, sm_0⟩, Kp0, hg9⟩ := hJ
  change Code.wp _ (Code.seq (Code.region _ _ _) (Code.cond _ _ _)) _ _ _
  refine wp_seq ?_
  refine rg_list ?_
  refine wl_p (ex_mv h3_0) F0.l fun a1 u1 h32_1 => ?_
  have F1 := F0.pt u1
  change Code.wp _ _ _ _ _
  cases lead
  · refine wp_cond_false h32_1 ?_
    refine wp_skip ?_
    exact hK _ _ ⟨F1, (u1.w h1_0), (u1.w h2_0), (u1.w h3_0), (u1.w h9_0), ⟨kp, mp, sv, key, map, B9_0, R_0, sk_0, sm_0⟩, Kp0, hg9⟩
  · refine wp_cond_true h32_1 ?_
    refine rg_list ?_
    refine wl_p (ex_mv (u1.w h1_0)) F1.l fun a2 u2 h33_2 => ?_
    have F2 := F1.pt u2
    obtain ⟨r34_2, b34_2, e34_2⟩ := u_shr n 5 hn
    refine wl_p (ex_bin (vy := (.int .u64 5)) (v := (.int .u32 r34_2)) h33_2 rfl (e34_2 _ _ _)) F2.l fun a3 u3 h34_3 => ?_
    have F3 := F2.pt u3
    refine wl_cl (args := #[(.int .u32 r34_2)]) (R := fun v w' => ∃ kp k, v = pto kp ∧ SMap w' kp k ∧ w0.grownBy w' none) (ex_cl (fun _ _ => by kernel_rfl) (arg1 h34_3)) ((mapOf_any (r34_2 : Int) (by omega) (by have := b34_2; omega) w0).mono fun _ _ ⟨kp, k, h1, h2, h3, _⟩ => ⟨_, h1, kp, k, rfl, h2, h3⟩) F3.l ?_
    rintro v w1 ⟨mp2, map2, rfl, sm2_1, G1⟩
    have B9_1 := B9_0.gn G1
    have Kp1 := Kp0.new G1
    have R_1 := R_0.gn G1
    have sk_1 := sk_0.gn G1
    have sm_1 := sm_0.gn G1
    intro a4 u4 h35_4
    have F4 := F3.pt u4
    have h9_4 := u4.w (u3.w (u2.w (u1.w h9_0)))
    refine wl_p (ex_fb 10 h9_4) F4.l fun a5 u5 h36_5 => ?_
    have F5 := F4.pt u5
    obtain ⟨w2, hr2, B9_2, G2⟩ := st_run (T := 41) (o := 10) (v := (pto mp2)) (cs' := #[(.int .i64 m.ver), (.int .i64 m.td), (.int .u64 m.seq), (.int .u64 m.dsq), (.int .i64 m.ty), (.int .i64 m.st), (.bool m.pre), (.bool m.ifr), (.bool m.clo), (pto kp), (pto mp2), sv]) (fun _ => by kernel_rfl) B9_1 rfl (Nat.le_of_ble_eq_true rfl) rfl
    have Kp2 := Kp1.set G2 (Or.inr hg9)
    have R_2 := R_1.gk B9_1 (by decide) (by decide) (by decide) G2
    have sk_2 := sk_1.gk B9_1 (by decide) G2
    have sm_2 := sm_1.gk B9_1 (by decide) G2
    have sm2_2 := sm2_1.gk B9_1 (by decide) G2
    refine wl_n (ex_st h36_5 (u5.w h35_4) hr2) ?_
    clear sm2_1
    have h1_5 := u5.w (u4.w (u3.w (u2.w (u1.w h1_0))))
    have h2_5 := u5.w (u4.w (u3.w (u2.w (u1.w h2_0))))
    have h3_5 := u5.w (u4.w (u3.w (u2.w (u1.w h3_0))))
    exact hK _ _ ⟨F5, h1_5, h2_5, h3_5, (u5.w h9_4), ⟨kp, mp2, sv, key, map2, B9_2, R_2, sk_2, sm2_2⟩, Kp2, hg9⟩
structure JE (w0 : World) (m : MedD) (kp mp : Option Nat) (key : Option KeyD) (map : Option MapD) (segs segs2 : List SegD) (sv : Value) (g9 g10 : Nat) (a : Act) (w : World) : Prop where
  fz : Fz 70 a
  t9 : a.tmps.getD 9 undef = .pointer (some ⟨g9, 0, none⟩)
  t10 : a.tmps.getD 10 undef = .pointer (some ⟨g10, 0, none⟩)
  b9 : Blk w g9 44 (medC m kp mp sv)
  r9 : SRow w w0.heap.size sv segs
  b10 : ∃ sv2, Blk w g10 44 (medC m kp mp sv2) ∧ SRow w w0.heap.size sv2 segs2
  sk : SKey w kp key
  sm : SMap w mp map
  kp : Kp [] w0 w
  h9 : w0.heap.size ≤ g9
  h10 : w0.heap.size ≤ g10
  ne : g9 ≠ g10
theorem wr_end {segs2 : List SegD} (okm : m.Ok) (hty : m.ty = 0 ∨ m.ty = 2) (hok : ∀ s ∈ segs, SegOk s) (hl12 : segs.length ≤ 12) (ff64 : FF64) (ff32 : FF32) (htab : TabP w00) (hgt : 7 < w00.heap.size) (hok2 : ∀ s ∈ segs2, SegOk s) (hl2 : segs2.length ≤ 12) (hseg : written 0 map segs = segs2) (hJ : JE w00 m kp mp key map segs segs2 sv g9 g10 a0 w0) : (cat [1, 1, 1, 1, 1, 1, 1, 1, 1] wrB).wp Tryz.prog (fun e a w => bodyPost Tryz.prog Tryz.f5 (fun e w' => e = .returned (.bool true) ∧ Below w00.heap.size w00 w') e a w) a0 w0 := by
  obtain ⟨F0, h9_0, h10_0, B9_0, R_0, ⟨sv2, B10_0, R2_0⟩, sk_0, sm_0, Kp0, hg9, hg10, hne⟩ := hJ
  change Code.wp _ (Code.seq _ _) _ _ _
  refine wp_seq ?_
  refine rg_list ?_
  refine wl_p (ex_lda h9_0 (ld_agg (n := 12) (xs := #[(.int .i64 m.ver), (.int .i64 m.td), (.int .u64 m.seq), (.int .u64 m.dsq), (.int .i64 m.ty), (.int .i64 m.st), (.bool m.pre), (.bool m.ifr), (.bool m.clo), (pto kp), (pto mp), sv]) (fun _ => by kernel_rfl) (fun _ => by kernel_rfl) B9_0 rfl (fun _ _ => by rw [Nat.zero_add] <;> rfl))) F0.l fun a1 u1 (h58_1 : a1.tmps.getD 58 undef = (.agg #[(.int .i64 m.ver), (.int .i64 m.td), (.int .u64 m.seq), (.int .u64 m.dsq), (.int .i64 m.ty), (.int .i64 m.st), (.bool m.pre), (.bool m.ifr), (.bool m.clo), (pto kp), (pto mp), sv])) => ?_
  have F1 := F0.pt u1
  refine wl_cl (args := #[(.agg #[(.int .i64 m.ver), (.int .i64 m.td), (.int .u64 m.seq), (.int .u64 m.dsq), (.int .i64 m.ty), (.int .i64 m.st), (.bool m.pre), (.bool m.ifr), (.bool m.clo), (pto kp), (pto mp), sv])]) (R := fun v w' => ∃ iv kv mv, v = .agg (impC m iv kv mv 0) ∧ IRow w' w0.heap.size iv segs ∧ KeySl w' kv key ∧ MapSl w' mv map ∧ w0.grownBy w' none) (ex_cl (fun _ _ => by kernel_rfl) (arg1 h58_1)) ((toMedia_any okm R_0 hl12 (fun s hs => by have := (hok s hs).2; omega) (key := key) (map := map) sk_0 sm_0).mono fun _ _ ⟨iv, kv, mv, h⟩ => ⟨_, h.1, iv, kv, mv, rfl, h.2⟩) F1.l ?_
  rintro v w1 ⟨iv, kv, mv, rfl, I_1, ks_1, ms_1, G1⟩
  have B9_1 := B9_0.gn G1
  have B10_1 := B10_0.gn G1
  have Kp1 := Kp0.new G1
  have R_1 := R_0.gn G1
  have R2_1 := R2_0.gn G1
  have sk_1 := sk_0.gn G1
  have sm_1 := sm_0.gn G1
  intro a2 u2 h59_2
  have F2 := F1.pt u2
  clear R2_0
  have hwm : Calls Tryz.prog 7 #[.agg (impC m iv kv mv 0), .bool false] w1 fun e w' => e = .returned (.tuple #[.string (bs (specX m.ver m.ty m.seq m.td m.st m.dsq m.pre m.ifr m.clo key map segs2)), .bool true]) ∧ w1.grownBy w' none := by
    have h := wm_spec (win := 0) okm hty I_1 ks_1 ms_1 hl12 hok (Nat.zero_le _) ff64 ff32 (htab.keep fun k hk => Kp1.block k (Nat.lt_of_le_of_lt hk hgt) (by simp)) (by have := Kp1.size; omega)
    rw [hseg] at h
    exact h
  refine wl_cl (args := #[(.agg #[(.float .f64 (fn m.td)), (.int .u64 m.seq), iv, (.string ⟨#[]⟩), (.bool m.ifr), (.bool m.clo), (.int .i64 m.ty), (.int .u64 m.dsq), (.float .f64 (fb m.st)), (.bool m.pre), (.int .i64 m.ver), kv, mv, (.int .i64 0)]), (.bool false)]) (R := fun v w' => v = .tuple #[.string (bs (specX m.ver m.ty m.seq m.td m.st m.dsq m.pre m.ifr m.clo key map segs2)), .bool true] ∧ w1.grownBy w' none) (ex_cl (fun _ _ => by kernel_rfl) (arg2 h59_2 rfl)) ((hwm).mono fun _ _ h => ⟨_, h.1, rfl, h.2⟩) F2.l ?_
  rintro v w2 ⟨rfl, G2⟩
  have B9_2 := B9_1.gn G2
  have B10_2 := B10_1.gn G2
  have Kp2 := Kp1.new G2
  have R_2 := R_1.gn G2
  have R2_2 := R2_1.gn G2
  have sk_2 := sk_1.gn G2
  have sm_2 := sm_1.gn G2
  have I_2 := I_1.gn G2
  have ks_2 := ks_1.gn G2
  have ms_2 := ms_1.gn G2
  intro a3 u3 h60_3
  have F3 := F2.pt u3
  clear R2_1 I_1
  clear hwm
  refine wl_p (ex_mv h60_3) F3.l fun a4 u4 h57_4 => ?_
  have F4 := F3.pt u4
  refine wl_p (ex_ext (vs := #[(.string (bs (specX m.ver m.ty m.seq m.td m.st m.dsq m.pre m.ifr m.clo key map segs2))), (.bool true)]) (v := (.string (bs (specX m.ver m.ty m.seq m.td m.st m.dsq m.pre m.ifr m.clo key map segs2)))) h57_4 rfl) F4.l fun a5 u5 h61_5 => ?_
  have F5 := F4.pt u5
  refine wl_p (ex_ext (vs := #[(.string (bs (specX m.ver m.ty m.seq m.td m.st m.dsq m.pre m.ifr m.clo key map segs2))), (.bool true)]) (v := (.bool true)) (u5.w h57_4) rfl) F5.l fun a6 u6 h62_6 => ?_
  have F6 := F5.pt u6
  refine wl_p (ex_as (u6.w h61_5)) F6.l fun a7 u7 h13_7 => ?_
  have F7 := F6.pt u7
  refine wl_p (ex_as (u7.w h62_6)) F7.l fun a8 u8 h14_8 => ?_
  have F8 := F7.pt u8
  change Code.wp _ _ _ _ _
  refine wp_seq ?_
  refine rg_list ?_
  refine wl_p (ex_mv h14_8) F8.l fun a9 u9 h63_9 => ?_
  have F9 := F8.pt u9
  refine wl_p (ex_mv h63_9) F9.l fun a10 u10 h64_10 => ?_
  have F10 := F9.pt u10
  have h13_10 := u10.w (u9.w (u8.w h13_7))
  refine wl_g (yl (e := 64) rfl h64_10) (ex_mv h13_10) F10.l fun a11 u11 h65_11 => ?_
  have F11 := F10.pt u11
  have h10_11 := u11.w (u10.w (u9.w (u8.w (u7.w (u6.w (u5.w (u4.w (u3.w (u2.w (u1.w h10_0))))))))))
  refine wl_g (yl (e := 64) rfl (u11.w h64_10)) (ex_lda h10_11 (ld_agg (n := 12) (xs := #[(.int .i64 m.ver), (.int .i64 m.td), (.int .u64 m.seq), (.int .u64 m.dsq), (.int .i64 m.ty), (.int .i64 m.st), (.bool m.pre), (.bool m.ifr), (.bool m.clo), (pto kp), (pto mp), sv2]) (fun _ => by kernel_rfl) (fun _ => by kernel_rfl) B10_2 rfl (fun _ _ => by rw [Nat.zero_add] <;> rfl))) F11.l fun a12 u12 (h66_12 : a12.tmps.getD 66 undef = (.agg #[(.int .i64 m.ver), (.int .i64 m.td), (.int .u64 m.seq), (.int .u64 m.dsq), (.int .i64 m.ty), (.int .i64 m.st), (.bool m.pre), (.bool m.ifr), (.bool m.clo), (pto kp), (pto mp), sv2])) => ?_
  have F12 := F11.pt u12
  refine wl_gc (yl (e := 64) rfl (u12.w (u11.w h64_10))) (args := #[(.agg #[(.int .i64 m.ver), (.int .i64 m.td), (.int .u64 m.seq), (.int .u64 m.dsq), (.int .i64 m.ty), (.int .i64 m.st), (.bool m.pre), (.bool m.ifr), (.bool m.clo), (pto kp), (pto mp), sv2]), (.bool false), (.int .u32 0)]) (R := fun v w' => v = .string (bs (specX m.ver m.ty m.seq m.td m.st m.dsq m.pre m.ifr m.clo key map segs2)) ∧ w2.grownBy w' none) (ex_cl (fun _ _ => by kernel_rfl) (arg3 h66_12 rfl rfl)) ((specWrite_any okm hty R2_2 hok2 hl2 (key := key) (map := map) sk_2 sm_2).mono fun _ _ h => ⟨_, h.1, rfl, h.2⟩) F12.l ?_
  rintro v w3 ⟨rfl, G3⟩
  have B9_3 := B9_2.gn G3
  have B10_3 := B10_2.gn G3
  have Kp3 := Kp2.new G3
  have R_3 := R_2.gn G3
  have R2_3 := R2_2.gn G3
  have sk_3 := sk_2.gn G3
  have sm_3 := sm_2.gn G3
  have I_3 := I_2.gn G3
  have ks_3 := ks_2.gn G3
  have ms_3 := ms_2.gn G3
  intro a13 u13 h67_13
  have F13 := F12.pt u13
  clear R2_2 I_2
  have h64_13 := u13.w (u12.w (u11.w h64_10))
  refine wl_g (yl (e := 64) rfl h64_13) (ex_bin (v := (.bool true)) (u13.w (u12.w h65_11)) h67_13 (bo_streq _ _)) F13.l fun a14 u14 h68_14 => ?_
  have F14 := F13.pt u14
  refine wl_p (ex_pick (q := true) (u14.w h64_13) h68_14) F14.l fun a15 u15 h69_15 => ?_
  have F15 := F14.pt u15
  refine wl_p (ex_as h69_15) F15.l fun a16 u16 h8_16 => ?_
  have F16 := F15.pt u16
  change Code.wp _ _ _ _ _
  refine wp_ret ?_
  try simp only [Exit.then, Exit.inBlock]
  exact bodyPost_ret (v := (.bool true)) ((results_tmp rfl _ _ _).trans (by rw [h8_16])) F16.defers ⟨rfl, Kp3.below⟩
structure JN (wl : World) (m : MedD) (kp mp : Option Nat) (segs : List SegD) (sv : Value) (g9 g10 : Nat) (j : Nat) (a : Act) (w : World) : Prop where
  fz : Fz 70 a
  t9 : a.tmps.getD 9 undef = .pointer (some ⟨g9, 0, none⟩)
  t10 : a.tmps.getD 10 undef = .pointer (some ⟨g10, 0, none⟩)
  t43 : a.tmps.getD 43 undef = sv
  t44 : a.tmps.getD 44 undef = .int .i64 segs.length
  t45 : a.tmps.getD 45 undef = .int .i64 j
  b10 : ∃ sv2, Blk w g10 44 (medC m kp mp sv2) ∧ SRow w wl.heap.size sv2 ((segs.take j).map noMap)
  kp : Kp [g10] wl w
theorem wr_round {wl : World} {base : Nat} (hR : SRow wl base sv segs) (hl12 : segs.length ≤ 12) {csl : Array Value} (hbl : Blk wl g10 44 csl) (hj : j < segs.length) (hJ : JN wl m kp mp segs sv g9 g10 j a0 w0) (hK : ∀ a' w', JN wl m kp mp segs sv g9 g10 (j + 1) a' w' → Q .normal a' w') : (cat [1, 1, 1, 1, 1, 1, 1, 1, 0, 1, 0, 1, 1, 0, 0] wrB).wp Tryz.prog Q a0 w0 := by
  change Code.wp _ (Code.seq _ _) _ _ _
  obtain ⟨F0, h9_0, h10_0, h43_0, h44_0, h45_0, ⟨sv2, B10_0, R2_0⟩, Kp0⟩ := hJ
  obtain ⟨ad, kp2, mp2, hix, hld, hk2, hm2⟩ := hR.elemB hj hbl (by decide)
  obtain ⟨s, hs⟩ : ∃ s, segs[j] = s := ⟨_, rfl⟩
  rw [hs] at hld hk2 hm2
  refine wp_seq ?_
  refine rg_list ?_
  refine wl_p (ex_bin (v := (.bool true)) h45_0 h44_0 (bo_lss_yes _ _ hj _)) F0.l fun a1 u1 h46_1 => ?_
  have F1 := F0.pt u1
  change Code.wp _ _ _ _ _
  refine wp_seq ?_
  refine wp_cond_true h46_1 ?_
  refine wp_skip ?_
  change Code.wp _ _ _ _ _
  refine wp_seq ?_
  refine wp_block ?_
  refine wp_seq ?_
  refine rg_list ?_
  refine wl_p (ex_ixg (v := .pointer (some ad)) (u1.w h43_0) (u1.w h45_0) (hix _)) F1.l fun a2 u2 h47_2 => ?_
  have F2 := F1.pt u2
  refine wl_p (ex_lda h47_2 (hld _ Kp0)) F2.l fun a3 u3 (h48_3 : a3.tmps.getD 48 undef = (.agg #[(.string s.title), (.string s.uri), (.int .i64 s.e), (.int .i64 s.li), (.int .i64 s.off), (pto kp2), (pto mp2), (.bool s.disc), (.string s.date)])) => ?_
  have F3 := F2.pt u3
  obtain ⟨g12, hg12⟩ : ∃ g, w0.heap.size = g := ⟨_, rfl⟩
  have ne_10_12 : g10 ≠ g12 := by have := B10_0.lt; omega
  have ge_12 : wl.heap.size ≤ g12 := by have := Kp0.size; omega
  have hx12 : ∀ x, sv2.ownBlock = some x → x ≠ g12 := fun x e => by have := R2_0.own_lt x e; omega
  obtain ⟨w1, hr1, B12_1, G1, hs1⟩ := al_run (op := Instr.alloc 53 true (.tuple #[])) (T := 53) (cs := #[(.string ⟨#[]⟩), (.string ⟨#[]⟩), (.int .i64 0), (.int .i64 0), (.int .i64 0), (.pointer none), (.pointer none), (.bool false), (.string ⟨#[]⟩)]) hg12 (fun _ => by kernel_rfl)
  have B10_1 := B10_0.gn G1
  have Kp1 := Kp0.new G1
  have R2_1 := R2_0.gn G1
  refine wl_p (ex_al hr1) F3.l fun a4 u4 (h12_4 : a4.tmps.getD 12 undef = (.pointer (some ⟨g12, 0, none⟩))) => ?_
  have F4 := F3.pt u4
  clear R2_0
  obtain ⟨w2, hr2, B12_2, G2⟩ := sta_run (T := 53) (cs := #[(.string s.title), (.string s.uri), (.int .i64 s.e), (.int .i64 s.li), (.int .i64 s.off), (pto kp2), (pto mp2), (.bool s.disc), (.string s.date)]) (fun _ => by kernel_rfl) B12_1 rfl rfl (by first | exact (one_ssegC _ _ _) | simp [Value.oneCell'])
  have B10_2 := B10_1.gk G2 ne_10_12
  have Kp2 := Kp1.set G2 (Or.inr ge_12)
  have R2_2 := R2_1.gkx hx12 B12_1 (by decide) (by decide) G2
  refine wl_n (ex_st h12_4 (u4.w h48_3) hr2) ?_
  clear R2_1
  change Code.wp _ _ _ _ _
  refine wp_seq ?_
  refine rg_list ?_
  refine wl_p (ex_fb 6 h12_4) F4.l fun a5 u5 h49_5 => ?_
  have F5 := F4.pt u5
  obtain ⟨w3, hr3, B12_3, G3⟩ := st_run (T := 41) (o := 6) (v := (.pointer none)) (cs' := #[(.string s.title), (.string s.uri), (.int .i64 s.e), (.int .i64 s.li), (.int .i64 s.off), (pto kp2), (.pointer none), (.bool s.disc), (.string s.date)]) (fun _ => by kernel_rfl) B12_2 rfl (Nat.le_of_ble_eq_true rfl) rfl
  have B10_3 := B10_2.gk G3 ne_10_12
  have Kp3 := Kp2.set G3 (Or.inr ge_12)
  have R2_3 := R2_2.gkx hx12 B12_2 (by decide) (by decide) G3
  refine wl_n (ex_st h49_5 rfl hr3) ?_
  clear R2_2
  change Code.wp _ _ _ _ _
  refine rg_list ?_
  have h10_5 := u5.w (u4.w (u3.w (u2.w (u1.w h10_0))))
  refine wl_p (ex_fb 11 h10_5) F5.l fun a6 u6 h50_6 => ?_
  have F6 := F5.pt u6
  refine wl_p (ex_le (v := sv2) h50_6 (B10_3.cell 11)) F6.l fun a7 u7 h51_7 => ?_
  have F7 := F6.pt u7
  have h12_7 := u7.w (u6.w (u5.w h12_4))
  refine wl_p (ex_lda h12_7 (ld_agg (n := 9) (xs := #[(.string s.title), (.string s.uri), (.int .i64 s.e), (.int .i64 s.li), (.int .i64 s.off), (pto kp2), (.pointer none), (.bool s.disc), (.string s.date)]) (fun _ => by kernel_rfl) (fun _ => by kernel_rfl) B12_3 rfl (fun _ _ => by rw [Nat.zero_add] <;> rfl))) F7.l fun a8 u8 (h52_8 : a8.tmps.getD 52 undef = (.agg #[(.string s.title), (.string s.uri), (.int .i64 s.e), (.int .i64 s.li), (.int .i64 s.off), (pto kp2), (.pointer none), (.bool s.disc), (.string s.date)])) => ?_
  have F8 := F7.pt u8
  obtain ⟨gs53_8, hgs53_8⟩ : ∃ g, w3.heap.size = g := ⟨_, rfl⟩
  have ne_10_s53_8 : g10 ≠ gs53_8 := by have := B10_3.lt; omega
  have ne_12_s53_8 : g12 ≠ gs53_8 := by have := B12_3.lt; omega
  have ge_s53_8 : wl.heap.size ≤ gs53_8 := by have := Kp3.size; omega
  obtain ⟨w4, hr4, Bs53_8_4, G4, hs4⟩ := bs_run (op := Instr.buildSlice 42 1 #[(0, (.agg #[(.string s.title), (.string s.uri), (.int .i64 s.e), (.int .i64 s.li), (.int .i64 s.off), (pto kp2), (.pointer none), (.bool s.disc), (.string s.date)]))]) (n := 1) (T := 53) (cs := #[(.string s.title), (.string s.uri), (.int .i64 s.e), (.int .i64 s.li), (.int .i64 s.off), (pto kp2), (.pointer none), (.bool s.disc), (.string s.date)]) hgs53_8 (fun _ => by kernel_rfl)
  have B10_4 := B10_3.gn G4
  have B12_4 := B12_3.gn G4
  have Kp4 := Kp3.new G4
  have R2_4 := R2_3.gn G4
  refine wl_p (ex_bs (vs := #[(0, (.agg #[(.string s.title), (.string s.uri), (.int .i64 s.e), (.int .i64 s.li), (.int .i64 s.off), (pto kp2), (.pointer none), (.bool s.disc), (.string s.date)]))]) (by have e0 : a8.eval (.tmp 52) = (.agg #[(.string s.title), (.string s.uri), (.int .i64 s.e), (.int .i64 s.li), (.int .i64 s.off), (pto kp2), (.pointer none), (.bool s.disc), (.string s.date)]) := h52_8; simp only [List.map_toArray, List.map_cons, List.map_nil, e0]) hr4) F8.l fun a9 u9 (h53_9 : a9.tmps.getD 53 undef = (.slice (some ⟨gs53_8, 0, none⟩) 1 1)) => ?_
  have F9 := F8.pt u9
  clear R2_3
  obtain ⟨v5, w5, hr5, R2_5, G5, xs5, own5⟩ := R2_4.push (s := noMap s) (kp := kp2) (mp := none) (ty := 42) (c := 1) Bs53_8_4 (hk2.kpd hbl (by decide) Kp4) .nil Kp4.size (by rw [List.length_map, List.length_take]; omega)
  have B10_5 := B10_4.row own5 (by decide) G5
  have Kp5 := Kp4.row own5 (Nat.le_refl _) G5
  refine wl_p (ex_app (u9.w (u8.w h51_7)) h53_9 hr5) F9.l fun a10 u10 (h54_10 : a10.tmps.getD 54 undef = v5) => ?_
  have F10 := F9.pt u10
  clear R2_4 own5
  have h10_10 := u10.w (u9.w (u8.w (u7.w (u6.w h10_5))))
  refine wl_p (ex_fb 11 h10_10) F10.l fun a11 u11 h55_11 => ?_
  have F11 := F10.pt u11
  obtain ⟨w6, hr6, B10_6, G6⟩ := st_run (T := 42) (o := 11) (v := v5) (cs' := #[(.int .i64 m.ver), (.int .i64 m.td), (.int .u64 m.seq), (.int .u64 m.dsq), (.int .i64 m.ty), (.int .i64 m.st), (.bool m.pre), (.bool m.ifr), (.bool m.clo), (pto kp), (pto mp), v5]) (fun _ => by kernel_rfl) B10_5 R2_5.one (Nat.le_of_ble_eq_true rfl) rfl
  have Kp6 := Kp5.set G6 (Or.inl (by simp))
  have R2_6 := R2_5.gk B10_5 (by decide) (by decide) (by decide) G6
  refine wl_n (ex_st h55_11 (u11.w h54_10) hr6) ?_
  clear R2_5
  change Code.wp _ _ _ _ _
  refine rg_list ?_
  have h45_11 := u11.w (u10.w (u9.w (u8.w (u7.w (u6.w (u5.w (u4.w (u3.w (u2.w (u1.w h45_0))))))))))
  refine wl_p (ex_bin (vy := (.int .i64 1)) (v := (.int .i64 (j + 1 : Nat))) h45_11 rfl (bo_addi3 j 1 _ (by omega))) F11.l fun a12 u12 h56_12 => ?_
  have F12 := F11.pt u12
  refine wl_p (ex_mv h56_12) F12.l fun a13 u13 h45_13 => ?_
  have F13 := F12.pt u13
  have h9_13 := u13.w (u12.w (u11.w (u10.w (u9.w (u8.w (u7.w (u6.w (u5.w (u4.w (u3.w (u2.w (u1.w h9_0))))))))))))
  have h10_13 := u13.w (u12.w (u11.w h10_10))
  have h43_13 := u13.w (u12.w (u11.w (u10.w (u9.w (u8.w (u7.w (u6.w (u5.w (u4.w (u3.w (u2.w (u1.w h43_0))))))))))))
  have h44_13 := u13.w (u12.w (u11.w (u10.w (u9.w (u8.w (u7.w (u6.w (u5.w (u4.w (u3.w (u2.w (u1.w h44_0))))))))))))
  refine hK _ _ ⟨F13, h9_13, h10_13, h43_13, h44_13, h45_13, ⟨_, B10_6, ?_⟩, Kp6⟩
  rw [List.take_succ_eq_append_getElem hj, List.map_append, List.map_singleton, hs]; exact R2_6
theorem wr_exit {wl : World} (hJ : JN wl m kp mp segs sv g9 g10 segs.length a0 w0) (hK : ∀ a', JN wl m kp mp segs sv g9 g10 segs.length a' w0 → Q .normal a' w0) : (cat [1, 1, 1, 1, 1, 1, 1, 1, 0, 1, 0, 1, 1, 0, 0] wrB).wp Tryz.prog (Exit.then (fun _ _ => False) (Exit.inBlock 0 Q)) a0 w0 := by
  change Code.wp _ (Code.seq _ _) _ _ _
  obtain ⟨F0, h9_0, h10_0, h43_0, h44_0, h45_0, ⟨sv2, B10_0, R2_0⟩, Kp0⟩ := hJ
  refine wp_seq ?_
  refine rg_list ?_
  refine wl_p (ex_bin (v := (.bool false)) h45_0 h44_0 (bo_lss_no _ _)) F0.l fun a1 u1 h46_1 => ?_
  have F1 := F0.pt u1
  change Code.wp _ _ _ _ _
  refine wp_seq ?_
  refine wp_cond_false h46_1 ?_
  refine wp_exit ?_
  try simp only [Exit.then]
  refine inBlock_exit ?_
  exact hK _ ⟨F1, (u1.w h9_0), (u1.w h10_0), (u1.w h43_0), (u1.w h44_0), (u1.w h45_0), ⟨_, B10_0, R2_0⟩, Kp0⟩
theorem wr_none (hJ : JE w00 m kp none key none segs segs sv g9 g10 a0 w0) (hK : ∀ a' w', JE w00 m kp none key none segs segs sv g9 g10 a' w' → Q .normal a' w') : (cat [1, 1, 1, 1, 1, 1, 1, 1, 0] wrB).wp Tryz.prog Q a0 w0 := by
  obtain ⟨F0, h9_0, h10_0, B9_0, R_0, ⟨sv2, B10_0, R2_0⟩, sk_0, sm_0, Kp0, hg9, hg10, hne⟩ := hJ
  change Code.wp _ (Code.seq (Code.region _ _ _) (Code.cond _ _ _)) _ _ _
  refine wp_seq ?_
  refine rg_list ?_
  refine wl_p (ex_fb 10 h9_0) F0.l fun a1 u1 h38_1 => ?_
  have F1 := F0.pt u1
  refine wl_p (ex_le (v := (.pointer none)) h38_1 (B9_0.cell 10)) F1.l fun a2 u2 h39_2 => ?_
  have F2 := F1.pt u2
  refine wl_p (ex_bin (vy := (.pointer none)) (v := (.bool false)) h39_2 rfl (by kernel_rfl)) F2.l fun a3 u3 h40_3 => ?_
  have F3 := F2.pt u3
  change Code.wp _ _ _ _ _
  refine wp_cond_false h40_3 ?_
  refine wp_skip ?_
  have h9_3 := u3.w (u2.w (u1.w h9_0))
  have h10_3 := u3.w (u2.w (u1.w h10_0))
  exact hK _ _ ⟨F3, h9_3, h10_3, B9_0, R_0, ⟨_, B10_0, R2_0⟩, sk_0, .nil, Kp0, hg9, hg10, hne⟩
theorem wr_some {q : Nat} {mm : MapD} (hl12 : segs.length ≤ 12) (hJ : JE w00 m kp (some q) key (some mm) segs segs sv g9 g10 a0 w0) (hK : ∀ a' w', JE w00 m kp (some q) key (some mm) segs (segs.map noMap) sv g9 g10 a' w' → Q .normal a' w') : (cat [1, 1, 1, 1, 1, 1, 1, 1, 0] wrB).wp Tryz.prog Q a0 w0 := by
  obtain ⟨F0, h9_0, h10_0, B9_0, R_0, ⟨sv2, B10_0, R2_0⟩, sk_0, sm_0, Kp0, hg9, hg10, hne⟩ := hJ
  change Code.wp _ (Code.seq (Code.region _ _ _) (Code.cond _ _ _)) _ _ _
  refine wp_seq ?_
  refine rg_list ?_
  refine wl_p (ex_fb 10 h9_0) F0.l fun a1 u1 h38_1 => ?_
  have F1 := F0.pt u1
  refine wl_p (ex_le (v := (.pointer (some ⟨q, 0, none⟩))) h38_1 (B9_0.cell 10)) F1.l fun a2 u2 h39_2 => ?_
  have F2 := F1.pt u2
  refine wl_p (ex_bin (vy := (.pointer none)) (v := (.bool true)) h39_2 rfl (by kernel_rfl)) F2.l fun a3 u3 h40_3 => ?_
  have F3 := F2.pt u3
  change Code.wp _ _ _ _ _
  refine wp_cond_true h40_3 ?_
  refine wp_seq ?_
  refine rg_list ?_
  have h10_3 := u3.w (u2.w (u1.w h10_0))
  refine wl_p (ex_fb 11 h10_3) F3.l fun a4 u4 h41_4 => ?_
  have F4 := F3.pt u4
  obtain ⟨w1, hr1, B10_1, G1⟩ := st_run (T := 42) (o := 11) (v := (.slice none 0 0)) (cs' := #[(.int .i64 m.ver), (.int .i64 m.td), (.int .u64 m.seq), (.int .u64 m.dsq), (.int .i64 m.ty), (.int .i64 m.st), (.bool m.pre), (.bool m.ifr), (.bool m.clo), (pto kp), (.pointer (some ⟨q, 0, none⟩)), (.slice none 0 0)]) (fun _ => by kernel_rfl) B10_0 rfl (Nat.le_of_ble_eq_true rfl) rfl
  have B9_1 := B9_0.gk G1 hne
  have Kp1 := Kp0.set G1 (Or.inr hg10)
  have R_1 := R_0.gk B10_0 (by decide) (by decide) (by decide) G1
  have R2_1 := R2_0.gk B10_0 (by decide) (by decide) (by decide) G1
  have sk_1 := sk_0.gk B10_0 (by decide) G1
  have sm_1 := sm_0.gk B10_0 (by decide) G1
  refine wl_n (ex_st h41_4 rfl hr1) ?_
  clear R2_0
  change Code.wp _ _ _ _ _
  refine wp_seq ?_
  refine rg_list ?_
  have h9_4 := u4.w (u3.w (u2.w (u1.w h9_0)))
  refine wl_p (ex_fb 11 h9_4) F4.l fun a5 u5 h42_5 => ?_
  have F5 := F4.pt u5
  refine wl_p (ex_le (v := sv) h42_5 (B9_1.cell 11)) F5.l fun a6 u6 h43_6 => ?_
  have F6 := F5.pt u6
  refine wl_p (ex_bi (w' := w1) (args := #[sv]) (v := (.int .i64 segs.length)) (arg1 h43_6) (R_1.len _)) F6.l fun a7 u7 h44_7 => ?_
  have F7 := F6.pt u7
  refine wl_p (ex_mv (v := (.int .i64 0)) rfl) F7.l fun a8 u8 h45_8 => ?_
  have F8 := F7.pt u8
  change Code.wp _ _ _ _ _
  have h9_8 := u8.w (u7.w (u6.w (u5.w h9_4)))
  have h10_8 := u8.w (u7.w (u6.w (u5.w (u4.w h10_3))))
  refine loop_n (si := 45) (m := segs.length) (fun j a w => JN w1 m kp (some q) segs sv g9 g10 j a w) ⟨F8, h9_8, h10_8, (u8.w (u7.w h43_6)), (u8.w h44_7), h45_8, ⟨_, B10_1, .nil⟩, Kp.refl _ _⟩ (fun _ _ _ h => h.t45) ?_ ?_
  · intro j a w hj hJ R hK
    exact wr_round R_1 hl12 B10_1 hj hJ hK
  · intro a w hJ
    refine wr_exit hJ fun a' hJ => hK _ _ ?_
    obtain ⟨f0, f9, f10, _, _, _, ⟨sv3, c10, r2⟩, K⟩ := hJ
    rw [List.take_length] at r2
    exact ⟨f0, f9, f10, B9_1.kp K (by simp [hne]), R_1.kpd B10_1 (by decide) (by decide) (by decide) K, ⟨_, c10, r2.weaken Kp1.size⟩, sk_1.kpd B10_1 (by decide) K, sm_1.kpd B10_1 (by decide) K, Kp1.trans1 K hg10, hg9, hg10, hne⟩
theorem wr_copy (hJ : JF w00 n lock lead m segs g9 a0 w0) (hK : ∀ {kp mp sv key map g10} a' w', JE w00 m kp mp key map segs segs sv g9 g10 a' w' → Q .normal a' w') : (cat [1, 1, 1, 1, 1, 1, 1, 0] wrB).wp Tryz.prog Q a0 w0 := by
  change Code.wp _ (Code.region _ _ _) _ _ _
  obtain ⟨F0, h1_0, h2_0, h3_0, h9_0, ⟨kp, mp, sv, key, map, B9_0, R_0, sk_0, sm_0⟩, Kp0, hg9⟩ := hJ
  refine rg_list ?_
  refine wl_p (ex_lda h9_0 (ld_agg (n := 12) (xs := #[(.int .i64 m.ver), (.int .i64 m.td), (.int .u64 m.seq), (.int .u64 m.dsq), (.int .i64 m.ty), (.int .i64 m.st), (.bool m.pre), (.bool m.ifr), (.bool m.clo), (pto kp), (pto mp), sv]) (fun _ => by kernel_rfl) (fun _ => by kernel_rfl) B9_0 rfl (fun _ _ => by rw [Nat.zero_add] <;> rfl))) F0.l fun a1 u1 (h37_1 : a1.tmps.getD 37 undef = (.agg #[(.int .i64 m.ver), (.int .i64 m.td), (.int .u64 m.seq), (.int .u64 m.dsq), (.int .i64 m.ty), (.int .i64 m.st), (.bool m.pre), (.bool m.ifr), (.bool m.clo), (pto kp), (pto mp), sv])) => ?_
  have F1 := F0.pt u1
  obtain ⟨g10, hg10⟩ : ∃ g, w0.heap.size = g := ⟨_, rfl⟩
  have ne_9_10 : g9 ≠ g10 := by have := B9_0.lt; omega
  have ge_10 : w00.heap.size ≤ g10 := by have := Kp0.size; omega
  obtain ⟨w1, hr1, B10_1, G1, hs1⟩ := al_run (op := Instr.alloc 44 true (.tuple #[])) (T := 44) (cs := #[(.int .i64 0), (.int .i64 0), (.int .u64 0), (.int .u64 0), (.int .i64 0), (.int .i64 0), (.bool false), (.bool false), (.bool false), (.pointer none), (.pointer none), (.slice none 0 0)]) hg10 (fun _ => by kernel_rfl)
  have B9_1 := B9_0.gn G1
  have Kp1 := Kp0.new G1
  have R_1 := R_0.gn G1
  have sk_1 := sk_0.gn G1
  have sm_1 := sm_0.gn G1
  refine wl_p (ex_al hr1) F1.l fun a2 u2 (h10_2 : a2.tmps.getD 10 undef = (.pointer (some ⟨g10, 0, none⟩))) => ?_
  have F2 := F1.pt u2
  obtain ⟨w2, hr2, B10_2, G2⟩ := sta_run (T := 44) (cs := #[(.int .i64 m.ver), (.int .i64 m.td), (.int .u64 m.seq), (.int .u64 m.dsq), (.int .i64 m.ty), (.int .i64 m.st), (.bool m.pre), (.bool m.ifr), (.bool m.clo), (pto kp), (pto mp), sv]) (fun _ => by kernel_rfl) B10_1 rfl rfl (by first | exact (one_medC _ _ _ _ (SRow.one R_1)) | simp [Value.oneCell'])
  have B9_2 := B9_1.gk G2 ne_9_10
  have Kp2 := Kp1.set G2 (Or.inr ge_10)
  have R_2 := R_1.gk B10_1 (by decide) (by decide) (by decide) G2
  have sk_2 := sk_1.gk B10_1 (by decide) G2
  have sm_2 := sm_1.gk B10_1 (by decide) G2
  refine wl_n (ex_st h10_2 (u2.w h37_1) hr2) ?_
  exact hK _ _ ⟨F2, (u2.w (u1.w h9_0)), h10_2, B9_2, R_2, ⟨_, B10_2, R_2⟩, sk_2, sm_2, Kp2, hg9, ge_10, ne_9_10⟩
theorem wr_rest (okm : m.Ok) (hty : m.ty = 0 ∨ m.ty = 2) (hok : ∀ s ∈ segs, SegOk s) (hl12 : segs.length ≤ 12) (ff64 : FF64) (ff32 : FF32) (htab : TabP w00) (hgt : 7 < w00.heap.size) (hJ : JE w00 m kp mp key map segs segs sv g9 g10 a0 w0) : (cat [1, 1, 1, 1, 1, 1, 1, 1] wrB).wp Tryz.prog (fun e a w => bodyPost Tryz.prog Tryz.f5 (fun e w' => e = .returned (.bool true) ∧ Below w00.heap.size w00 w') e a w) a0 w0 := by
  have hsm := hJ.sm
  change Code.wp _ (Code.seq _ _) _ _ _
  cases hsm with
  | nil =>
    refine wp_seq (wr_none hJ fun a w hJ => (?_ : Code.wp _ _ _ _ _))
    exact wr_end okm hty hok hl12 ff64 ff32 htab hgt hok hl12 (by unfold written; rw [if_pos rfl]; exact map_id_of fun _ => rfl) hJ
  | mk _ _ =>
    refine wp_seq (wr_some hl12 hJ fun a w hJ => (?_ : Code.wp _ _ _ _ _))
    refine wr_end okm hty hok hl12 ff64 ff32 htab hgt ?_ (by rw [List.length_map]; exact hl12) (by unfold written; rw [if_pos rfl]; rfl) hJ
    intro s hs
    obtain ⟨s', hs', rfl⟩ := List.mem_map.1 hs
    exact (hok s' hs').noMap
end
theorem write_walk {ao : Option Addr} {b off len cap n : Nat} {lock lead : Bool} {zs : Nat → Nat} {w0 : World} (hn : n < 4294967296) (hu : U32s w0 ao b off len cap zs) (ff64 : FF64) (ff32 : FF32) (htab : TabP w0) (hgt : 7 < w0.heap.size) :
    Calls Tryz.prog 5 #[.slice ao len cap, .int .u32 n, .bool lock, .bool lead] w0 fun e w' => e = .returned (.bool true) ∧ Below w0.heap.size w0 w' := by
  refine calls_of_wp Tryz.func5 rfl ?_
  generalize hA : Act.mk _ _ = a0
  have F0 : Fz 70 a0 := by subst hA; exact ⟨by simp [Tryz.ntmps5], rfl⟩
  have h0_0 : a0.tmps.getD 0 undef = (.slice ao len cap) := by subst hA; exact fr_arg rfl
  have h1_0 : a0.tmps.getD 1 undef = (.int .u32 n) := by subst hA; exact fr_arg rfl
  have h2_0 : a0.tmps.getD 2 undef = (.bool lock) := by subst hA; exact fr_arg rfl
  have h3_0 : a0.tmps.getD 3 undef = (.bool lead) := by subst hA; exact fr_arg rfl
  clear hA
  have Kp0 := Kp.refl [] w0
  have hlen := hu.hlen
  refine wp_seq ?_
  refine rg_list ?_
  refine wl_p (ex_as (v := (.bool false)) rfl) F0.l fun a1 u1 h8_1 => ?_
  have F1 := F0.pt u1
  change Code.wp _ _ _ _ _
  refine wp_seq ?_
  refine wp_seq ?_
  refine rg_list ?_
  refine wl_p (ex_mv (u1.w h0_0)) F1.l fun a2 u2 h15_2 => ?_
  have F2 := F1.pt u2
  refine wl_p (ex_bi (w' := w0) (args := #[(.slice ao len cap)]) (v := (.int .i64 len)) (arg1 h15_2) (by kernel_rfl)) F2.l fun a3 u3 h16_3 => ?_
  have F3 := F2.pt u3
  refine wl_p (ex_bin (vy := (.int .i64 2147483647)) (v := (.bool false)) h16_3 rfl ((bo_gtri (len : Int) 2147483647 _).trans (by rw [decide_eq_false (by omega)]))) F3.l fun a4 u4 h17_4 => ?_
  have F4 := F3.pt u4
  change Code.wp _ _ _ _ _
  refine wp_cond_false h17_4 ?_
  refine wp_skip ?_
  change Code.wp _ _ _ _ _
  refine wp_seq ?_
  refine wp_seq ?_
  refine rg_list ?_
  have h0_4 := u4.w (u3.w (u2.w (u1.w h0_0)))
  refine wl_p (ex_mv h0_4) F4.l fun a5 u5 h18_5 => ?_
  have F5 := F4.pt u5
  refine wl_p (ex_bi (w' := w0) (args := #[(.slice ao len cap)]) (v := (.int .i64 len)) (arg1 h18_5) (by kernel_rfl)) F5.l fun a6 u6 h19_6 => ?_
  have F6 := F5.pt u6
  refine wl_p (ex_bin (vy := (.int .i64 100)) (v := (.bool false)) h19_6 rfl ((bo_gtri (len : Int) 100 _).trans (by rw [decide_eq_false (by omega)]))) F6.l fun a7 u7 h20_7 => ?_
  have F7 := F6.pt u7
  change Code.wp _ _ _ _ _
  refine wp_cond_false h20_7 ?_
  refine wp_skip ?_
  change Code.wp _ _ _ _ _
  refine wp_seq ?_
  refine rg_list ?_
  have h0_7 := u7.w (u6.w (u5.w h0_4))
  refine wl_p (ex_mv h0_7) F7.l fun a8 u8 h21_8 => ?_
  have F8 := F7.pt u8
  have h1_8 := u8.w (u7.w (u6.w (u5.w (u4.w (u3.w (u2.w (u1.w h1_0)))))))
  refine wl_p (ex_mv h1_8) F8.l fun a9 u9 h22_9 => ?_
  have F9 := F8.pt u9
  refine wl_cl (args := #[(.slice ao len cap), (.int .u32 n)]) (R := fun v w' => ∃ m sv segs, v = .agg (medC m none none sv) ∧ m.Ok ∧ SRow w' w0.heap.size sv segs ∧ (∀ s ∈ segs, SegOk s) ∧ segs.length = min len 12 ∧ w0.grownBy w' none) (ex_cl (fun _ _ => by kernel_rfl) (arg2 (u9.w h21_8) h22_9)) ((mediaOf_any hn (hu.keep Kp0)).mono fun _ _ ⟨m, sv, segs, h⟩ => ⟨_, h.1, m, sv, segs, rfl, h.2⟩) F9.l ?_
  rintro v w1 ⟨m, sv, segs, rfl, okm, R_1, hok, hsl, G1⟩
  have Kp1 := Kp0.new G1
  intro a10 u10 h23_10
  have F10 := F9.pt u10
  have hl12 : segs.length ≤ 12 := by omega
  obtain ⟨g9, hg9⟩ : ∃ g, w1.heap.size = g := ⟨_, rfl⟩
  have ge_9 : w0.heap.size ≤ g9 := by have := Kp1.size; omega
  obtain ⟨w2, hr2, B9_2, G2, hs2⟩ := al_run (op := Instr.alloc 44 true (.tuple #[])) (T := 44) (cs := #[(.int .i64 0), (.int .i64 0), (.int .u64 0), (.int .u64 0), (.int .i64 0), (.int .i64 0), (.bool false), (.bool false), (.bool false), (.pointer none), (.pointer none), (.slice none 0 0)]) hg9 (fun _ => by kernel_rfl)
  have Kp2 := Kp1.new G2
  have R_2 := R_1.gn G2
  refine wl_p (ex_al hr2) F10.l fun a11 u11 (h9_11 : a11.tmps.getD 9 undef = (.pointer (some ⟨g9, 0, none⟩))) => ?_
  have F11 := F10.pt u11
  obtain ⟨w3, hr3, B9_3, G3⟩ := sta_run (T := 44) (cs := #[(.int .i64 m.ver), (.int .i64 m.td), (.int .u64 m.seq), (.int .u64 m.dsq), (.int .i64 m.ty), (.int .i64 m.st), (.bool m.pre), (.bool m.ifr), (.bool m.clo), (pto none), (pto none), sv]) (fun _ => by kernel_rfl) B9_2 rfl rfl (by first | exact (one_medC _ _ _ _ (SRow.one R_2)) | simp [Value.oneCell'])
  have Kp3 := Kp2.set G3 (Or.inr ge_9)
  have R_3 := R_2.gk B9_2 (by decide) (by decide) (by decide) G3
  refine wl_n (ex_st h9_11 (u11.w h23_10) hr3) ?_
  change Code.wp _ _ _ _ _
  refine wp_seq ?_
  refine wp_seq ?_
  refine rg_list ?_
  refine wl_p (ex_fb 4 h9_11) F11.l fun a12 u12 h24_12 => ?_
  have F12 := F11.pt u12
  refine wl_p (ex_le (v := (.int .i64 m.ty)) h24_12 (B9_3.cell 4)) F12.l fun a13 u13 h25_13 => ?_
  have F13 := F12.pt u13
  refine wl_p (ex_bin (vy := (.int .i64 1)) (v := (.bool (decide (m.ty = 1)))) h25_13 rfl (bo_eqi m.ty 1 _)) F13.l fun a14 u14 h26_14 => ?_
  have F14 := F13.pt u14
  change Code.wp _ _ _ _ _
  by_cases hty1 : m.ty = 1
  · refine wp_cond_true (h26_14.trans (by rw [decide_eq_true hty1])) ?_
    refine wp_seq ?_
    refine rg_list ?_
    refine wl_p (ex_as (v := (.bool true)) rfl) F14.l fun a15 u15 h8_15 => ?_
    have F15 := F14.pt u15
    change Code.wp _ _ _ _ _
    refine wp_ret ?_
    try simp only [Exit.then, Exit.inBlock]
    exact bodyPost_ret (v := (.bool true)) ((results_tmp rfl _ _ _).trans (by rw [h8_15])) F15.defers ⟨rfl, Kp3.below⟩
  · refine wp_cond_false (h26_14.trans (by rw [decide_eq_false hty1])) ?_
    refine wp_skip ?_
    change Code.wp _ _ _ _ _
    have hty : m.ty = 0 ∨ m.ty = 2 := by have := okm.ty; omega
    have h1_14 := u14.w (u13.w (u12.w (u11.w (u10.w (u9.w h1_8)))))
    have h2_14 := u14.w (u13.w (u12.w (u11.w (u10.w (u9.w (u8.w (u7.w (u6.w (u5.w (u4.w (u3.w (u2.w (u1.w h2_0)))))))))))))
    have h3_14 := u14.w (u13.w (u12.w (u11.w (u10.w (u9.w (u8.w (u7.w (u6.w (u5.w (u4.w (u3.w (u2.w (u1.w h3_0)))))))))))))
    have h9_14 := u14.w (u13.w (u12.w h9_11))
    have hJ : JF w0 n lock lead m segs g9 a14 w3 := ⟨F14, h1_14, h2_14, h3_14, h9_14, ⟨none, none, sv, none, none, B9_3, R_3, .nil, .nil⟩, Kp3, ge_9⟩
    refine wp_seq (wr_lock hn hJ fun a w hJ => (?_ : Code.wp _ _ _ _ _))
    refine wp_seq (wr_lead hn hJ fun a w hJ => (?_ : Code.wp _ _ _ _ _))
    refine wp_seq (wr_copy hJ fun a w hJ => (?_ : Code.wp _ _ _ _ _))
    exact wr_rest okm hty hok hl12 ff64 ff32 htab hgt hJ
end Go.Proofs.YtlphcidpaidclaaGreatDoor
