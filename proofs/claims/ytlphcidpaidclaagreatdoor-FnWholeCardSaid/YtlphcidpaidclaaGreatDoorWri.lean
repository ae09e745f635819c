/-
  impl.WriteMedia, whole.
-/
import Derived.Test.YtlphcidpaidclaaGreatDoorWmp
namespace Go.Proofs.YtlphcidpaidclaaGreatDoor
open Go.RowKit
set_option maxRecDepth 100000
set_option maxHeartbeats 4000000

theorem wm_any {T seq ty dsq st ver win cap : Nat} {ifr clo pre wh : Bool} {sv kv mv : Value} {segs : List SegD} {key : Option KeyD} {map : Option MapD} {w0 : World}
    (hsv : SegSl w0 sv segs) (hks : KeySl w0 kv key) (hms : MapSl w0 mv map) (hlen : segs.length ≤ 1024) (hcap : cap = max 1 segs.length) (hwin : win ≤ cap) (hseq : seq < 9223372036854775808) (hT0 : T < 500) (hst : st < 301) (hver : ver < 100) (hty : ty = 0 ∨ ty = 2) (hdsq : dsq < 18446744073709551616)
    (hTs : ∀ j, j < segs.length → tmax T (segs.take j) < 500) (hTe : tmax T segs < 501) (hes : ∀ s, s ∈ segs → s.e < 4000) (hok : ∀ s, s ∈ segs → s.Ok ∧ (wh = true ∧ s.e < 4000 ∨ s.e < 160 ∧ FF32)) (hff : st = 0 ∨ FF64) (htab : TabP w0) (hgt : 3 < w0.heap.size) :
    Calls Tryz.prog 7 #[.agg #[(.float .f64 (fn T)), (.int .u64 seq), sv, (.string { data := #[] }), (.bool ifr), (.bool clo), (.int .i64 ty), (.int .u64 dsq), (.float .f64 (fb st)), (.bool pre), (.int .i64 ver), kv, mv, (.int .i64 win)], .bool wh] w0 fun e w' => ∃ gg kp mp, mp.isNone = map.isNone ∧ e = .returned (.tuple #[.string (bs (encT ⟨tmax T segs, seq, gg, ifr, clo, ty, dsq, st, pre, wh, win, cap, segs.length % cap, segs.length, ver, kp, mp⟩ key map segs)), .bool true]) ∧ Below w0.heap.size w0 w' := by
  refine calls_of_wp Tryz.func7 rfl ?_
  generalize hA : Act.mk _ _ = a0
  have F0 : Fz 201 a0 := by subst hA; exact ⟨by simp [Tryz.ntmps7], rfl⟩
  have h0_0 : a0.tmps.getD 0 undef = (.agg #[(.float .f64 (fn T)), (.int .u64 seq), sv, (.string { data := #[] }), (.bool ifr), (.bool clo), (.int .i64 ty), (.int .u64 dsq), (.float .f64 (fb st)), (.bool pre), (.int .i64 ver), kv, mv, (.int .i64 win)]) := by subst hA; exact fr_arg rfl
  have h1_0 : a0.tmps.getD 1 undef = (.bool wh) := by subst hA; exact fr_arg rfl
  clear hA
  have Kp0 := Kp.refl [] w0
  refine wp_seq ?_
  refine rg_list ?_
  obtain ⟨gm, hgm⟩ : ∃ g, w0.heap.size = g := ⟨_, rfl⟩
  have ge_m : w0.heap.size ≤ gm := by have := Kp0.size; omega
  obtain ⟨w1, hr1, Bm_1, G1, hs1⟩ := al_run (op := Instr.box 36 (.agg #[(.float .f64 (fn T)), (.int .u64 seq), sv, (.string { data := #[] }), (.bool ifr), (.bool clo), (.int .i64 ty), (.int .u64 dsq), (.float .f64 (fb st)), (.bool pre), (.int .i64 ver), kv, mv, (.int .i64 win)])) (T := 36) (cs := #[(.float .f64 (fn T)), (.int .u64 seq), sv, (.string { data := #[] }), (.bool ifr), (.bool clo), (.int .i64 ty), (.int .u64 dsq), (.float .f64 (fb st)), (.bool pre), (.int .i64 ver), kv, mv, (.int .i64 win)]) hgm (fun _ => by kernel_rfl)
  have Kp1 := Kp0.new G1
  refine wl_p (ex_bx h0_0 hr1) (by rw [F0.size]; decide) fun a1 u1 (h2_1 : a1.tmps.getD 2 undef = (.pointer (some ⟨gm, 0, none⟩))) => ?_
  have F1 := F0.pt u1
  have h1_1 := u1.v 1 h1_0 (by decide)
  clear h0_0 h1_0 u1 F0
  clear Kp0 hr1 G1 hs1 hgm
  refine wl_p (ex_as (v := (.string { data := #[] })) rfl) (by rw [F1.size]; decide) fun a2 u2 (h4_2 : a2.tmps.getD 4 undef = (.string { data := #[] })) => ?_
  have F2 := F1.pt u2
  have h1_2 := u2.v 1 h1_1 (by decide)
  have h2_2 := u2.v 2 h2_1 (by decide)
  clear h1_1 h2_1 u2 F1
  refine wl_p (ex_as (v := (.bool false)) rfl) (by rw [F2.size]; decide) fun a3 u3 (h5_3 : a3.tmps.getD 5 undef = (.bool false)) => ?_
  have F3 := F2.pt u3
  have h1_3 := u3.v 1 h1_2 (by decide)
  have h2_3 := u3.v 2 h2_2 (by decide)
  have h4_3 := u3.v 4 h4_2 (by decide)
  clear h1_2 h2_2 h4_2 u3 F2
  change Code.wp _ _ _ _ _
  refine wp_seq ?_
  refine wp_seq ?_
  refine rg_list ?_
  refine wl_p (ex_fa (T := 36) (f := 2) (k := 2) (b := gm) (fun _ _ => by kernel_rfl) h2_3) (by rw [F3.size]; decide) fun a4 u4 (h13_4 : a4.tmps.getD 13 undef = (.pointer (some ⟨gm, 2, none⟩))) => ?_
  have F4 := F3.pt u4
  have h1_4 := u4.v 1 h1_3 (by decide)
  have h2_4 := u4.v 2 h2_3 (by decide)
  have h4_4 := u4.v 4 h4_3 (by decide)
  have h5_4 := u4.v 5 h5_3 (by decide)
  clear h1_3 h2_3 h4_3 h5_3 u4 F3
  refine wl_p (ex_ld (v := sv) (ad := ⟨gm, 2, none⟩) (fun _ => by kernel_rfl) h13_4 (Bm_1.cell 2)) (by rw [F4.size]; decide) fun a5 u5 (h14_5 : a5.tmps.getD 14 undef = sv) => ?_
  have F5 := F4.pt u5
  have h1_5 := u5.v 1 h1_4 (by decide)
  have h2_5 := u5.v 2 h2_4 (by decide)
  have h4_5 := u5.v 4 h4_4 (by decide)
  have h5_5 := u5.v 5 h5_4 (by decide)
  clear h1_4 h2_4 h4_4 h5_4 h13_4 u5 F4
  refine wl_p (ex_bi (w' := w1) (args := #[sv]) (v := (.int .i64 segs.length)) (arg1 h14_5) (hsv.len _)) (by rw [F5.size]; decide) fun a6 u6 (h15_6 : a6.tmps.getD 15 undef = (.int .i64 segs.length)) => ?_
  have F6 := F5.pt u6
  have h1_6 := u6.v 1 h1_5 (by decide)
  have h2_6 := u6.v 2 h2_5 (by decide)
  have h4_6 := u6.v 4 h4_5 (by decide)
  have h5_6 := u6.v 5 h5_5 (by decide)
  clear h1_5 h2_5 h4_5 h5_5 h14_5 u6 F5
  refine wl_p (ex_bin (vx := (.int .i64 segs.length)) (vy := (.int .i64 1024)) (v := (.bool false)) h15_6 rfl ((bo_gtri _ _ _).trans (by rw [decide_eq_false (by omega)]))) (by rw [F6.size]; decide) fun a7 u7 (h16_7 : a7.tmps.getD 16 undef = (.bool false)) => ?_
  have F7 := F6.pt u7
  have h1_7 := u7.v 1 h1_6 (by decide)
  have h2_7 := u7.v 2 h2_6 (by decide)
  have h4_7 := u7.v 4 h4_6 (by decide)
  have h5_7 := u7.v 5 h5_6 (by decide)
  clear h1_6 h2_6 h4_6 h5_6 h15_6 u7 F6
  refine wl_p (ex_mv (v := (.bool false)) h16_7) (by rw [F7.size]; decide) fun a8 u8 (h17_8 : a8.tmps.getD 17 undef = (.bool false)) => ?_
  have F8 := F7.pt u8
  have h1_8 := u8.v 1 h1_7 (by decide)
  have h2_8 := u8.v 2 h2_7 (by decide)
  have h4_8 := u8.v 4 h4_7 (by decide)
  have h5_8 := u8.v 5 h5_7 (by decide)
  clear h1_7 h2_7 h4_7 h5_7 h16_7 u8 F7
  refine wl_g (yl (e := 17) rfl h17_8) (ex_fa (T := 36) (f := 13) (k := 13) (b := gm) (fun _ _ => by kernel_rfl) h2_8) (by rw [F8.size]; decide) fun a9 u9 (h18_9 : a9.tmps.getD 18 undef = (.pointer (some ⟨gm, 13, none⟩))) => ?_
  have F9 := F8.pt u9
  have h1_9 := u9.v 1 h1_8 (by decide)
  have h2_9 := u9.v 2 h2_8 (by decide)
  have h4_9 := u9.v 4 h4_8 (by decide)
  have h5_9 := u9.v 5 h5_8 (by decide)
  have h17_9 := u9.v 17 h17_8 (by decide)
  clear h1_8 h2_8 h4_8 h5_8 h17_8 u9 F8
  refine wl_g (yl (e := 17) rfl h17_9) (ex_ld (v := (.int .i64 win)) (ad := ⟨gm, 13, none⟩) (fun _ => by kernel_rfl) h18_9 (Bm_1.cell 13)) (by rw [F9.size]; decide) fun a10 u10 (h19_10 : a10.tmps.getD 19 undef = (.int .i64 win)) => ?_
  have F10 := F9.pt u10
  have h1_10 := u10.v 1 h1_9 (by decide)
  have h2_10 := u10.v 2 h2_9 (by decide)
  have h4_10 := u10.v 4 h4_9 (by decide)
  have h5_10 := u10.v 5 h5_9 (by decide)
  have h17_10 := u10.v 17 h17_9 (by decide)
  clear h1_9 h2_9 h4_9 h5_9 h17_9 h18_9 u10 F9
  refine wl_g (yl (e := 17) rfl h17_10) (ex_bin (vx := (.int .i64 win)) (vy := (.int .i64 0)) (v := (.bool false)) h19_10 rfl ((bo_lssi _ _ _).trans (by rw [decide_eq_false (by omega)]))) (by rw [F10.size]; decide) fun a11 u11 (h20_11 : a11.tmps.getD 20 undef = (.bool false)) => ?_
  have F11 := F10.pt u11
  have h1_11 := u11.v 1 h1_10 (by decide)
  have h2_11 := u11.v 2 h2_10 (by decide)
  have h4_11 := u11.v 4 h4_10 (by decide)
  have h5_11 := u11.v 5 h5_10 (by decide)
  have h17_11 := u11.v 17 h17_10 (by decide)
  clear h1_10 h2_10 h4_10 h5_10 h17_10 h19_10 u11 F10
  refine wl_p (ex_pick (q := false) (v := (.bool false)) h17_11 h20_11) (by rw [F11.size]; decide) fun a12 u12 (h21_12 : a12.tmps.getD 21 undef = (.bool false)) => ?_
  have F12 := F11.pt u12
  have h1_12 := u12.v 1 h1_11 (by decide)
  have h2_12 := u12.v 2 h2_11 (by decide)
  have h4_12 := u12.v 4 h4_11 (by decide)
  have h5_12 := u12.v 5 h5_11 (by decide)
  have h17_12 := u12.v 17 h17_11 (by decide)
  clear h1_11 h2_11 h4_11 h5_11 h17_11 h20_11 u12 F11
  refine wl_p (ex_mv (v := (.bool false)) h21_12) (by rw [F12.size]; decide) fun a13 u13 (h22_13 : a13.tmps.getD 22 undef = (.bool false)) => ?_
  have F13 := F12.pt u13
  have h1_13 := u13.v 1 h1_12 (by decide)
  have h2_13 := u13.v 2 h2_12 (by decide)
  have h4_13 := u13.v 4 h4_12 (by decide)
  have h5_13 := u13.v 5 h5_12 (by decide)
  have h17_13 := u13.v 17 h17_12 (by decide)
  clear h1_12 h2_12 h4_12 h5_12 h17_12 h21_12 u13 F12
  refine wl_g (yl (e := 22) rfl h22_13) (ex_fa (T := 36) (f := 13) (k := 13) (b := gm) (fun _ _ => by kernel_rfl) h2_13) (by rw [F13.size]; decide) fun a14 u14 (h23_14 : a14.tmps.getD 23 undef = (.pointer (some ⟨gm, 13, none⟩))) => ?_
  have F14 := F13.pt u14
  have h1_14 := u14.v 1 h1_13 (by decide)
  have h2_14 := u14.v 2 h2_13 (by decide)
  have h4_14 := u14.v 4 h4_13 (by decide)
  have h5_14 := u14.v 5 h5_13 (by decide)
  have h17_14 := u14.v 17 h17_13 (by decide)
  have h22_14 := u14.v 22 h22_13 (by decide)
  clear h1_13 h2_13 h4_13 h5_13 h17_13 h22_13 u14 F13
  refine wl_g (yl (e := 22) rfl h22_14) (ex_ld (v := (.int .i64 win)) (ad := ⟨gm, 13, none⟩) (fun _ => by kernel_rfl) h23_14 (Bm_1.cell 13)) (by rw [F14.size]; decide) fun a15 u15 (h24_15 : a15.tmps.getD 24 undef = (.int .i64 win)) => ?_
  have F15 := F14.pt u15
  have h1_15 := u15.v 1 h1_14 (by decide)
  have h2_15 := u15.v 2 h2_14 (by decide)
  have h4_15 := u15.v 4 h4_14 (by decide)
  have h5_15 := u15.v 5 h5_14 (by decide)
  have h17_15 := u15.v 17 h17_14 (by decide)
  have h22_15 := u15.v 22 h22_14 (by decide)
  clear h1_14 h2_14 h4_14 h5_14 h17_14 h22_14 h23_14 u15 F14
  refine wl_g (yl (e := 22) rfl h22_15) (ex_fa (T := 36) (f := 2) (k := 2) (b := gm) (fun _ _ => by kernel_rfl) h2_15) (by rw [F15.size]; decide) fun a16 u16 (h25_16 : a16.tmps.getD 25 undef = (.pointer (some ⟨gm, 2, none⟩))) => ?_
  have F16 := F15.pt u16
  have h1_16 := u16.v 1 h1_15 (by decide)
  have h2_16 := u16.v 2 h2_15 (by decide)
  have h4_16 := u16.v 4 h4_15 (by decide)
  have h5_16 := u16.v 5 h5_15 (by decide)
  have h17_16 := u16.v 17 h17_15 (by decide)
  have h22_16 := u16.v 22 h22_15 (by decide)
  have h24_16 := u16.v 24 h24_15 (by decide)
  clear h1_15 h2_15 h4_15 h5_15 h17_15 h22_15 h24_15 u16 F15
  refine wl_g (yl (e := 22) rfl h22_16) (ex_ld (v := sv) (ad := ⟨gm, 2, none⟩) (fun _ => by kernel_rfl) h25_16 (Bm_1.cell 2)) (by rw [F16.size]; decide) fun a17 u17 (h26_17 : a17.tmps.getD 26 undef = sv) => ?_
  have F17 := F16.pt u17
  have h1_17 := u17.v 1 h1_16 (by decide)
  have h2_17 := u17.v 2 h2_16 (by decide)
  have h4_17 := u17.v 4 h4_16 (by decide)
  have h5_17 := u17.v 5 h5_16 (by decide)
  have h17_17 := u17.v 17 h17_16 (by decide)
  have h22_17 := u17.v 22 h22_16 (by decide)
  have h24_17 := u17.v 24 h24_16 (by decide)
  clear h1_16 h2_16 h4_16 h5_16 h17_16 h22_16 h24_16 h25_16 u17 F16
  refine wl_g (yl (e := 22) rfl h22_17) (ex_bi (w' := w1) (args := #[sv]) (v := (.int .i64 segs.length)) (arg1 h26_17) (hsv.len _)) (by rw [F17.size]; decide) fun a18 u18 (h27_18 : a18.tmps.getD 27 undef = (.int .i64 segs.length)) => ?_
  have F18 := F17.pt u18
  have h1_18 := u18.v 1 h1_17 (by decide)
  have h2_18 := u18.v 2 h2_17 (by decide)
  have h4_18 := u18.v 4 h4_17 (by decide)
  have h5_18 := u18.v 5 h5_17 (by decide)
  have h17_18 := u18.v 17 h17_17 (by decide)
  have h22_18 := u18.v 22 h22_17 (by decide)
  have h24_18 := u18.v 24 h24_17 (by decide)
  clear h1_17 h2_17 h4_17 h5_17 h17_17 h22_17 h24_17 h26_17 u18 F17
  refine wl_g (yl (e := 22) rfl h22_18) (ex_bi (w' := w1) (args := #[(.int .i64 1), (.int .i64 segs.length)]) (v := (.int .i64 cap)) (arg2 rfl h27_18) ((max_run _ _).trans (by rw [← hcap]))) (by rw [F18.size]; decide) fun a19 u19 (h28_19 : a19.tmps.getD 28 undef = (.int .i64 cap)) => ?_
  have F19 := F18.pt u19
  have h1_19 := u19.v 1 h1_18 (by decide)
  have h2_19 := u19.v 2 h2_18 (by decide)
  have h4_19 := u19.v 4 h4_18 (by decide)
  have h5_19 := u19.v 5 h5_18 (by decide)
  have h17_19 := u19.v 17 h17_18 (by decide)
  have h22_19 := u19.v 22 h22_18 (by decide)
  have h24_19 := u19.v 24 h24_18 (by decide)
  clear h1_18 h2_18 h4_18 h5_18 h17_18 h22_18 h24_18 h27_18 u19 F18
  refine wl_g (yl (e := 22) rfl h22_19) (ex_bin (vx := (.int .i64 win)) (vy := (.int .i64 cap)) (v := (.bool false)) h24_19 h28_19 ((bo_gtri _ _ _).trans (by rw [decide_eq_false (by omega)]))) (by rw [F19.size]; decide) fun a20 u20 (h29_20 : a20.tmps.getD 29 undef = (.bool false)) => ?_
  have F20 := F19.pt u20
  have h1_20 := u20.v 1 h1_19 (by decide)
  have h2_20 := u20.v 2 h2_19 (by decide)
  have h4_20 := u20.v 4 h4_19 (by decide)
  have h5_20 := u20.v 5 h5_19 (by decide)
  have h17_20 := u20.v 17 h17_19 (by decide)
  have h22_20 := u20.v 22 h22_19 (by decide)
  clear h1_19 h2_19 h4_19 h5_19 h17_19 h22_19 h24_19 h28_19 u20 F19
  refine wl_p (ex_pick (q := false) (v := (.bool false)) h22_20 h29_20) (by rw [F20.size]; decide) fun a21 u21 (h30_21 : a21.tmps.getD 30 undef = (.bool false)) => ?_
  have F21 := F20.pt u21
  have h1_21 := u21.v 1 h1_20 (by decide)
  have h2_21 := u21.v 2 h2_20 (by decide)
  have h4_21 := u21.v 4 h4_20 (by decide)
  have h5_21 := u21.v 5 h5_20 (by decide)
  have h17_21 := u21.v 17 h17_20 (by decide)
  have h22_21 := u21.v 22 h22_20 (by decide)
  clear h1_20 h2_20 h4_20 h5_20 h17_20 h22_20 h29_20 u21 F20
  refine wl_p (ex_mv (v := (.bool false)) h30_21) (by rw [F21.size]; decide) fun a22 u22 (h31_22 : a22.tmps.getD 31 undef = (.bool false)) => ?_
  have F22 := F21.pt u22
  have h1_22 := u22.v 1 h1_21 (by decide)
  have h2_22 := u22.v 2 h2_21 (by decide)
  have h4_22 := u22.v 4 h4_21 (by decide)
  have h5_22 := u22.v 5 h5_21 (by decide)
  have h17_22 := u22.v 17 h17_21 (by decide)
  have h22_22 := u22.v 22 h22_21 (by decide)
  clear h1_21 h2_21 h4_21 h5_21 h17_21 h22_21 h30_21 u22 F21
  refine wl_g (yl (e := 31) rfl h31_22) (ex_fa (T := 36) (f := 10) (k := 10) (b := gm) (fun _ _ => by kernel_rfl) h2_22) (by rw [F22.size]; decide) fun a23 u23 (h32_23 : a23.tmps.getD 32 undef = (.pointer (some ⟨gm, 10, none⟩))) => ?_
  have F23 := F22.pt u23
  have h1_23 := u23.v 1 h1_22 (by decide)
  have h2_23 := u23.v 2 h2_22 (by decide)
  have h4_23 := u23.v 4 h4_22 (by decide)
  have h5_23 := u23.v 5 h5_22 (by decide)
  have h17_23 := u23.v 17 h17_22 (by decide)
  have h22_23 := u23.v 22 h22_22 (by decide)
  have h31_23 := u23.v 31 h31_22 (by decide)
  clear h1_22 h2_22 h4_22 h5_22 h17_22 h22_22 h31_22 u23 F22
  refine wl_g (yl (e := 31) rfl h31_23) (ex_ld (v := (.int .i64 ver)) (ad := ⟨gm, 10, none⟩) (fun _ => by kernel_rfl) h32_23 (Bm_1.cell 10)) (by rw [F23.size]; decide) fun a24 u24 (h33_24 : a24.tmps.getD 33 undef = (.int .i64 ver)) => ?_
  have F24 := F23.pt u24
  have h1_24 := u24.v 1 h1_23 (by decide)
  have h2_24 := u24.v 2 h2_23 (by decide)
  have h4_24 := u24.v 4 h4_23 (by decide)
  have h5_24 := u24.v 5 h5_23 (by decide)
  have h17_24 := u24.v 17 h17_23 (by decide)
  have h22_24 := u24.v 22 h22_23 (by decide)
  have h31_24 := u24.v 31 h31_23 (by decide)
  clear h1_23 h2_23 h4_23 h5_23 h17_23 h22_23 h31_23 h32_23 u24 F23
  refine wl_g (yl (e := 31) rfl h31_24) (ex_bin (vx := (.int .i64 ver)) (vy := (.int .i64 0)) (v := (.bool false)) h33_24 rfl ((bo_lssi _ _ _).trans (by rw [decide_eq_false (by omega)]))) (by rw [F24.size]; decide) fun a25 u25 (h34_25 : a25.tmps.getD 34 undef = (.bool false)) => ?_
  have F25 := F24.pt u25
  have h1_25 := u25.v 1 h1_24 (by decide)
  have h2_25 := u25.v 2 h2_24 (by decide)
  have h4_25 := u25.v 4 h4_24 (by decide)
  have h5_25 := u25.v 5 h5_24 (by decide)
  have h17_25 := u25.v 17 h17_24 (by decide)
  have h22_25 := u25.v 22 h22_24 (by decide)
  have h31_25 := u25.v 31 h31_24 (by decide)
  clear h1_24 h2_24 h4_24 h5_24 h17_24 h22_24 h31_24 h33_24 u25 F24
  refine wl_p (ex_pick (q := false) (v := (.bool false)) h31_25 h34_25) (by rw [F25.size]; decide) fun a26 u26 (h35_26 : a26.tmps.getD 35 undef = (.bool false)) => ?_
  have F26 := F25.pt u26
  have h1_26 := u26.v 1 h1_25 (by decide)
  have h2_26 := u26.v 2 h2_25 (by decide)
  have h4_26 := u26.v 4 h4_25 (by decide)
  have h5_26 := u26.v 5 h5_25 (by decide)
  have h17_26 := u26.v 17 h17_25 (by decide)
  have h22_26 := u26.v 22 h22_25 (by decide)
  have h31_26 := u26.v 31 h31_25 (by decide)
  clear h1_25 h2_25 h4_25 h5_25 h17_25 h22_25 h31_25 h34_25 u26 F25
  refine wl_p (ex_mv (v := (.bool false)) h35_26) (by rw [F26.size]; decide) fun a27 u27 (h36_27 : a27.tmps.getD 36 undef = (.bool false)) => ?_
  have F27 := F26.pt u27
  have h1_27 := u27.v 1 h1_26 (by decide)
  have h2_27 := u27.v 2 h2_26 (by decide)
  have h4_27 := u27.v 4 h4_26 (by decide)
  have h5_27 := u27.v 5 h5_26 (by decide)
  have h17_27 := u27.v 17 h17_26 (by decide)
  have h22_27 := u27.v 22 h22_26 (by decide)
  have h31_27 := u27.v 31 h31_26 (by decide)
  clear h1_26 h2_26 h4_26 h5_26 h17_26 h22_26 h31_26 h35_26 u27 F26
  refine wl_g (yl (e := 36) rfl h36_27) (ex_fa (T := 36) (f := 10) (k := 10) (b := gm) (fun _ _ => by kernel_rfl) h2_27) (by rw [F27.size]; decide) fun a28 u28 (h37_28 : a28.tmps.getD 37 undef = (.pointer (some ⟨gm, 10, none⟩))) => ?_
  have F28 := F27.pt u28
  have h1_28 := u28.v 1 h1_27 (by decide)
  have h2_28 := u28.v 2 h2_27 (by decide)
  have h4_28 := u28.v 4 h4_27 (by decide)
  have h5_28 := u28.v 5 h5_27 (by decide)
  have h17_28 := u28.v 17 h17_27 (by decide)
  have h22_28 := u28.v 22 h22_27 (by decide)
  have h31_28 := u28.v 31 h31_27 (by decide)
  have h36_28 := u28.v 36 h36_27 (by decide)
  clear h1_27 h2_27 h4_27 h5_27 h17_27 h22_27 h31_27 h36_27 u28 F27
  refine wl_g (yl (e := 36) rfl h36_28) (ex_ld (v := (.int .i64 ver)) (ad := ⟨gm, 10, none⟩) (fun _ => by kernel_rfl) h37_28 (Bm_1.cell 10)) (by rw [F28.size]; decide) fun a29 u29 (h38_29 : a29.tmps.getD 38 undef = (.int .i64 ver)) => ?_
  have F29 := F28.pt u29
  have h1_29 := u29.v 1 h1_28 (by decide)
  have h2_29 := u29.v 2 h2_28 (by decide)
  have h4_29 := u29.v 4 h4_28 (by decide)
  have h5_29 := u29.v 5 h5_28 (by decide)
  have h17_29 := u29.v 17 h17_28 (by decide)
  have h22_29 := u29.v 22 h22_28 (by decide)
  have h31_29 := u29.v 31 h31_28 (by decide)
  have h36_29 := u29.v 36 h36_28 (by decide)
  clear h1_28 h2_28 h4_28 h5_28 h17_28 h22_28 h31_28 h36_28 h37_28 u29 F28
  refine wl_g (yl (e := 36) rfl h36_29) (ex_bin (vx := (.int .i64 ver)) (vy := (.int .i64 255)) (v := (.bool false)) h38_29 rfl ((bo_gtri _ _ _).trans (by rw [decide_eq_false (by omega)]))) (by rw [F29.size]; decide) fun a30 u30 (h39_30 : a30.tmps.getD 39 undef = (.bool false)) => ?_
  have F30 := F29.pt u30
  have h1_30 := u30.v 1 h1_29 (by decide)
  have h2_30 := u30.v 2 h2_29 (by decide)
  have h4_30 := u30.v 4 h4_29 (by decide)
  have h5_30 := u30.v 5 h5_29 (by decide)
  have h17_30 := u30.v 17 h17_29 (by decide)
  have h22_30 := u30.v 22 h22_29 (by decide)
  have h31_30 := u30.v 31 h31_29 (by decide)
  have h36_30 := u30.v 36 h36_29 (by decide)
  clear h1_29 h2_29 h4_29 h5_29 h17_29 h22_29 h31_29 h36_29 h38_29 u30 F29
  refine wl_p (ex_pick (q := false) (v := (.bool false)) h36_30 h39_30) (by rw [F30.size]; decide) fun a31 u31 (h40_31 : a31.tmps.getD 40 undef = (.bool false)) => ?_
  have F31 := F30.pt u31
  have h1_31 := u31.v 1 h1_30 (by decide)
  have h2_31 := u31.v 2 h2_30 (by decide)
  have h4_31 := u31.v 4 h4_30 (by decide)
  have h5_31 := u31.v 5 h5_30 (by decide)
  have h17_31 := u31.v 17 h17_30 (by decide)
  have h22_31 := u31.v 22 h22_30 (by decide)
  have h31_31 := u31.v 31 h31_30 (by decide)
  have h36_31 := u31.v 36 h36_30 (by decide)
  clear h1_30 h2_30 h4_30 h5_30 h17_30 h22_30 h31_30 h36_30 h39_30 u31 F30
  refine wl_p (ex_mv (v := (.bool false)) h40_31) (by rw [F31.size]; decide) fun a32 u32 (h41_32 : a32.tmps.getD 41 undef = (.bool false)) => ?_
  have F32 := F31.pt u32
  have h1_32 := u32.v 1 h1_31 (by decide)
  have h2_32 := u32.v 2 h2_31 (by decide)
  have h4_32 := u32.v 4 h4_31 (by decide)
  have h5_32 := u32.v 5 h5_31 (by decide)
  have h17_32 := u32.v 17 h17_31 (by decide)
  have h22_32 := u32.v 22 h22_31 (by decide)
  have h31_32 := u32.v 31 h31_31 (by decide)
  have h36_32 := u32.v 36 h36_31 (by decide)
  clear h1_31 h2_31 h4_31 h5_31 h17_31 h22_31 h31_31 h36_31 h40_31 u32 F31
  refine wl_g (yl (e := 41) rfl h41_32) (ex_fa (T := 36) (f := 6) (k := 6) (b := gm) (fun _ _ => by kernel_rfl) h2_32) (by rw [F32.size]; decide) fun a33 u33 (h42_33 : a33.tmps.getD 42 undef = (.pointer (some ⟨gm, 6, none⟩))) => ?_
  have F33 := F32.pt u33
  have h1_33 := u33.v 1 h1_32 (by decide)
  have h2_33 := u33.v 2 h2_32 (by decide)
  have h4_33 := u33.v 4 h4_32 (by decide)
  have h5_33 := u33.v 5 h5_32 (by decide)
  have h17_33 := u33.v 17 h17_32 (by decide)
  have h22_33 := u33.v 22 h22_32 (by decide)
  have h31_33 := u33.v 31 h31_32 (by decide)
  have h36_33 := u33.v 36 h36_32 (by decide)
  have h41_33 := u33.v 41 h41_32 (by decide)
  clear h1_32 h2_32 h4_32 h5_32 h17_32 h22_32 h31_32 h36_32 h41_32 u33 F32
  refine wl_g (yl (e := 41) rfl h41_33) (ex_ld (v := (.int .i64 ty)) (ad := ⟨gm, 6, none⟩) (fun _ => by kernel_rfl) h42_33 (Bm_1.cell 6)) (by rw [F33.size]; decide) fun a34 u34 (h43_34 : a34.tmps.getD 43 undef = (.int .i64 ty)) => ?_
  have F34 := F33.pt u34
  have h1_34 := u34.v 1 h1_33 (by decide)
  have h2_34 := u34.v 2 h2_33 (by decide)
  have h4_34 := u34.v 4 h4_33 (by decide)
  have h5_34 := u34.v 5 h5_33 (by decide)
  have h17_34 := u34.v 17 h17_33 (by decide)
  have h22_34 := u34.v 22 h22_33 (by decide)
  have h31_34 := u34.v 31 h31_33 (by decide)
  have h36_34 := u34.v 36 h36_33 (by decide)
  have h41_34 := u34.v 41 h41_33 (by decide)
  clear h1_33 h2_33 h4_33 h5_33 h17_33 h22_33 h31_33 h36_33 h41_33 h42_33 u34 F33
  refine wl_g (yl (e := 41) rfl h41_34) (ex_bin (vx := (.int .i64 ty)) (vy := (.int .i64 0)) (v := (.bool false)) h43_34 rfl ((bo_lssi _ _ _).trans (by rw [decide_eq_false (by omega)]))) (by rw [F34.size]; decide) fun a35 u35 (h44_35 : a35.tmps.getD 44 undef = (.bool false)) => ?_
  have F35 := F34.pt u35
  have h1_35 := u35.v 1 h1_34 (by decide)
  have h2_35 := u35.v 2 h2_34 (by decide)
  have h4_35 := u35.v 4 h4_34 (by decide)
  have h5_35 := u35.v 5 h5_34 (by decide)
  have h17_35 := u35.v 17 h17_34 (by decide)
  have h22_35 := u35.v 22 h22_34 (by decide)
  have h31_35 := u35.v 31 h31_34 (by decide)
  have h36_35 := u35.v 36 h36_34 (by decide)
  have h41_35 := u35.v 41 h41_34 (by decide)
  clear h1_34 h2_34 h4_34 h5_34 h17_34 h22_34 h31_34 h36_34 h41_34 h43_34 u35 F34
  refine wl_p (ex_pick (q := false) (v := (.bool false)) h41_35 h44_35) (by rw [F35.size]; decide) fun a36 u36 (h45_36 : a36.tmps.getD 45 undef = (.bool false)) => ?_
  have F36 := F35.pt u36
  have h1_36 := u36.v 1 h1_35 (by decide)
  have h2_36 := u36.v 2 h2_35 (by decide)
  have h4_36 := u36.v 4 h4_35 (by decide)
  have h5_36 := u36.v 5 h5_35 (by decide)
  have h17_36 := u36.v 17 h17_35 (by decide)
  have h22_36 := u36.v 22 h22_35 (by decide)
  have h31_36 := u36.v 31 h31_35 (by decide)
  have h36_36 := u36.v 36 h36_35 (by decide)
  have h41_36 := u36.v 41 h41_35 (by decide)
  clear h1_35 h2_35 h4_35 h5_35 h17_35 h22_35 h31_35 h36_35 h41_35 h44_35 u36 F35
  refine wl_p (ex_mv (v := (.bool false)) h45_36) (by rw [F36.size]; decide) fun a37 u37 (h46_37 : a37.tmps.getD 46 undef = (.bool false)) => ?_
  have F37 := F36.pt u37
  have h1_37 := u37.v 1 h1_36 (by decide)
  have h2_37 := u37.v 2 h2_36 (by decide)
  have h4_37 := u37.v 4 h4_36 (by decide)
  have h5_37 := u37.v 5 h5_36 (by decide)
  have h17_37 := u37.v 17 h17_36 (by decide)
  have h22_37 := u37.v 22 h22_36 (by decide)
  have h31_37 := u37.v 31 h31_36 (by decide)
  have h36_37 := u37.v 36 h36_36 (by decide)
  have h41_37 := u37.v 41 h41_36 (by decide)
  clear h1_36 h2_36 h4_36 h5_36 h17_36 h22_36 h31_36 h36_36 h41_36 h45_36 u37 F36
  refine wl_g (yl (e := 46) rfl h46_37) (ex_fa (T := 36) (f := 6) (k := 6) (b := gm) (fun _ _ => by kernel_rfl) h2_37) (by rw [F37.size]; decide) fun a38 u38 (h47_38 : a38.tmps.getD 47 undef = (.pointer (some ⟨gm, 6, none⟩))) => ?_
  have F38 := F37.pt u38
  have h1_38 := u38.v 1 h1_37 (by decide)
  have h2_38 := u38.v 2 h2_37 (by decide)
  have h4_38 := u38.v 4 h4_37 (by decide)
  have h5_38 := u38.v 5 h5_37 (by decide)
  have h17_38 := u38.v 17 h17_37 (by decide)
  have h22_38 := u38.v 22 h22_37 (by decide)
  have h31_38 := u38.v 31 h31_37 (by decide)
  have h36_38 := u38.v 36 h36_37 (by decide)
  have h41_38 := u38.v 41 h41_37 (by decide)
  have h46_38 := u38.v 46 h46_37 (by decide)
  clear h1_37 h2_37 h4_37 h5_37 h17_37 h22_37 h31_37 h36_37 h41_37 h46_37 u38 F37
  refine wl_g (yl (e := 46) rfl h46_38) (ex_ld (v := (.int .i64 ty)) (ad := ⟨gm, 6, none⟩) (fun _ => by kernel_rfl) h47_38 (Bm_1.cell 6)) (by rw [F38.size]; decide) fun a39 u39 (h48_39 : a39.tmps.getD 48 undef = (.int .i64 ty)) => ?_
  have F39 := F38.pt u39
  have h1_39 := u39.v 1 h1_38 (by decide)
  have h2_39 := u39.v 2 h2_38 (by decide)
  have h4_39 := u39.v 4 h4_38 (by decide)
  have h5_39 := u39.v 5 h5_38 (by decide)
  have h17_39 := u39.v 17 h17_38 (by decide)
  have h22_39 := u39.v 22 h22_38 (by decide)
  have h31_39 := u39.v 31 h31_38 (by decide)
  have h36_39 := u39.v 36 h36_38 (by decide)
  have h41_39 := u39.v 41 h41_38 (by decide)
  have h46_39 := u39.v 46 h46_38 (by decide)
  clear h1_38 h2_38 h4_38 h5_38 h17_38 h22_38 h31_38 h36_38 h41_38 h46_38 h47_38 u39 F38
  refine wl_g (yl (e := 46) rfl h46_39) (ex_bin (vx := (.int .i64 ty)) (vy := (.int .i64 2)) (v := (.bool false)) h48_39 rfl ((bo_gtri _ _ _).trans (by rw [decide_eq_false (by omega)]))) (by rw [F39.size]; decide) fun a40 u40 (h49_40 : a40.tmps.getD 49 undef = (.bool false)) => ?_
  have F40 := F39.pt u40
  have h1_40 := u40.v 1 h1_39 (by decide)
  have h2_40 := u40.v 2 h2_39 (by decide)
  have h4_40 := u40.v 4 h4_39 (by decide)
  have h5_40 := u40.v 5 h5_39 (by decide)
  have h17_40 := u40.v 17 h17_39 (by decide)
  have h22_40 := u40.v 22 h22_39 (by decide)
  have h31_40 := u40.v 31 h31_39 (by decide)
  have h36_40 := u40.v 36 h36_39 (by decide)
  have h41_40 := u40.v 41 h41_39 (by decide)
  have h46_40 := u40.v 46 h46_39 (by decide)
  clear h1_39 h2_39 h4_39 h5_39 h17_39 h22_39 h31_39 h36_39 h41_39 h46_39 h48_39 u40 F39
  refine wl_p (ex_pick (q := false) (v := (.bool false)) h46_40 h49_40) (by rw [F40.size]; decide) fun a41 u41 (h50_41 : a41.tmps.getD 50 undef = (.bool false)) => ?_
  have F41 := F40.pt u41
  have h1_41 := u41.v 1 h1_40 (by decide)
  have h2_41 := u41.v 2 h2_40 (by decide)
  have h4_41 := u41.v 4 h4_40 (by decide)
  have h5_41 := u41.v 5 h5_40 (by decide)
  have h17_41 := u41.v 17 h17_40 (by decide)
  have h22_41 := u41.v 22 h22_40 (by decide)
  have h31_41 := u41.v 31 h31_40 (by decide)
  have h36_41 := u41.v 36 h36_40 (by decide)
  have h41_41 := u41.v 41 h41_40 (by decide)
  have h46_41 := u41.v 46 h46_40 (by decide)
  clear h1_40 h2_40 h4_40 h5_40 h17_40 h22_40 h31_40 h36_40 h41_40 h46_40 h49_40 u41 F40
  refine wl_p (ex_mv (v := (.bool false)) h50_41) (by rw [F41.size]; decide) fun a42 u42 (h51_42 : a42.tmps.getD 51 undef = (.bool false)) => ?_
  have F42 := F41.pt u42
  have h1_42 := u42.v 1 h1_41 (by decide)
  have h2_42 := u42.v 2 h2_41 (by decide)
  have h4_42 := u42.v 4 h4_41 (by decide)
  have h5_42 := u42.v 5 h5_41 (by decide)
  have h17_42 := u42.v 17 h17_41 (by decide)
  have h22_42 := u42.v 22 h22_41 (by decide)
  have h31_42 := u42.v 31 h31_41 (by decide)
  have h36_42 := u42.v 36 h36_41 (by decide)
  have h41_42 := u42.v 41 h41_41 (by decide)
  have h46_42 := u42.v 46 h46_41 (by decide)
  clear h1_41 h2_41 h4_41 h5_41 h17_41 h22_41 h31_41 h36_41 h41_41 h46_41 h50_41 u42 F41
  refine wl_g (yl (e := 51) rfl h51_42) (ex_fa (T := 36) (f := 0) (k := 0) (b := gm) (fun _ _ => by kernel_rfl) h2_42) (by rw [F42.size]; decide) fun a43 u43 (h52_43 : a43.tmps.getD 52 undef = (.pointer (some ⟨gm, 0, none⟩))) => ?_
  have F43 := F42.pt u43
  have h1_43 := u43.v 1 h1_42 (by decide)
  have h2_43 := u43.v 2 h2_42 (by decide)
  have h4_43 := u43.v 4 h4_42 (by decide)
  have h5_43 := u43.v 5 h5_42 (by decide)
  have h17_43 := u43.v 17 h17_42 (by decide)
  have h22_43 := u43.v 22 h22_42 (by decide)
  have h31_43 := u43.v 31 h31_42 (by decide)
  have h36_43 := u43.v 36 h36_42 (by decide)
  have h41_43 := u43.v 41 h41_42 (by decide)
  have h46_43 := u43.v 46 h46_42 (by decide)
  have h51_43 := u43.v 51 h51_42 (by decide)
  clear h1_42 h2_42 h4_42 h5_42 h17_42 h22_42 h31_42 h36_42 h41_42 h46_42 h51_42 u43 F42
  refine wl_g (yl (e := 51) rfl h51_43) (ex_ld (v := (.float .f64 (fn T))) (ad := ⟨gm, 0, none⟩) (fun _ => by kernel_rfl) h52_43 (Bm_1.cell 0)) (by rw [F43.size]; decide) fun a44 u44 (h53_44 : a44.tmps.getD 53 undef = (.float .f64 (fn T))) => ?_
  have F44 := F43.pt u44
  have h1_44 := u44.v 1 h1_43 (by decide)
  have h2_44 := u44.v 2 h2_43 (by decide)
  have h4_44 := u44.v 4 h4_43 (by decide)
  have h5_44 := u44.v 5 h5_43 (by decide)
  have h17_44 := u44.v 17 h17_43 (by decide)
  have h22_44 := u44.v 22 h22_43 (by decide)
  have h31_44 := u44.v 31 h31_43 (by decide)
  have h36_44 := u44.v 36 h36_43 (by decide)
  have h41_44 := u44.v 41 h41_43 (by decide)
  have h46_44 := u44.v 46 h46_43 (by decide)
  have h51_44 := u44.v 51 h51_43 (by decide)
  clear h1_43 h2_43 h4_43 h5_43 h17_43 h22_43 h31_43 h36_43 h41_43 h46_43 h51_43 h52_43 u44 F43
  refine wl_gc (yl (e := 51) rfl h51_44) (args := #[(.float .f64 (fn T))]) (R := fun v w' => v = (.bool true) ∧ (w1 = w')) (ex_cl (fun _ _ => by kernel_rfl) (arg1 h53_44)) ((plain_fn hT0 _).mono fun _ _ h => ⟨_, h.1, rfl, h.2⟩) (by rw [F44.size]; decide) ?_
  rintro v w' ⟨rfl, rfl⟩
  intro a45 u45 h54_45
  have F45 := F44.pt u45
  have h1_45 := u45.v 1 h1_44 (by decide)
  have h2_45 := u45.v 2 h2_44 (by decide)
  have h4_45 := u45.v 4 h4_44 (by decide)
  have h5_45 := u45.v 5 h5_44 (by decide)
  have h17_45 := u45.v 17 h17_44 (by decide)
  have h22_45 := u45.v 22 h22_44 (by decide)
  have h31_45 := u45.v 31 h31_44 (by decide)
  have h36_45 := u45.v 36 h36_44 (by decide)
  have h41_45 := u45.v 41 h41_44 (by decide)
  have h46_45 := u45.v 46 h46_44 (by decide)
  have h51_45 := u45.v 51 h51_44 (by decide)
  clear h1_44 h2_44 h4_44 h5_44 h17_44 h22_44 h31_44 h36_44 h41_44 h46_44 h51_44 h53_44 u45 F44
  refine wl_g (yl (e := 51) rfl h51_45) (ex_un (vx := (.bool true)) (v := (.bool false)) h54_45 rfl) (by rw [F45.size]; decide) fun a46 u46 (h55_46 : a46.tmps.getD 55 undef = (.bool false)) => ?_
  have F46 := F45.pt u46
  have h1_46 := u46.v 1 h1_45 (by decide)
  have h2_46 := u46.v 2 h2_45 (by decide)
  have h4_46 := u46.v 4 h4_45 (by decide)
  have h5_46 := u46.v 5 h5_45 (by decide)
  have h17_46 := u46.v 17 h17_45 (by decide)
  have h22_46 := u46.v 22 h22_45 (by decide)
  have h31_46 := u46.v 31 h31_45 (by decide)
  have h36_46 := u46.v 36 h36_45 (by decide)
  have h41_46 := u46.v 41 h41_45 (by decide)
  have h46_46 := u46.v 46 h46_45 (by decide)
  have h51_46 := u46.v 51 h51_45 (by decide)
  clear h1_45 h2_45 h4_45 h5_45 h17_45 h22_45 h31_45 h36_45 h41_45 h46_45 h51_45 h54_45 u46 F45
  refine wl_p (ex_pick (q := false) (v := (.bool false)) h51_46 h55_46) (by rw [F46.size]; decide) fun a47 u47 (h56_47 : a47.tmps.getD 56 undef = (.bool false)) => ?_
  have F47 := F46.pt u47
  have h1_47 := u47.v 1 h1_46 (by decide)
  have h2_47 := u47.v 2 h2_46 (by decide)
  have h4_47 := u47.v 4 h4_46 (by decide)
  have h5_47 := u47.v 5 h5_46 (by decide)
  have h17_47 := u47.v 17 h17_46 (by decide)
  have h22_47 := u47.v 22 h22_46 (by decide)
  have h31_47 := u47.v 31 h31_46 (by decide)
  have h36_47 := u47.v 36 h36_46 (by decide)
  have h41_47 := u47.v 41 h41_46 (by decide)
  have h46_47 := u47.v 46 h46_46 (by decide)
  have h51_47 := u47.v 51 h51_46 (by decide)
  clear h1_46 h2_46 h4_46 h5_46 h17_46 h22_46 h31_46 h36_46 h41_46 h46_46 h51_46 h55_46 u47 F46
  refine wl_p (ex_mv (v := (.bool false)) h56_47) (by rw [F47.size]; decide) fun a48 u48 (h57_48 : a48.tmps.getD 57 undef = (.bool false)) => ?_
  have F48 := F47.pt u48
  have h1_48 := u48.v 1 h1_47 (by decide)
  have h2_48 := u48.v 2 h2_47 (by decide)
  have h4_48 := u48.v 4 h4_47 (by decide)
  have h5_48 := u48.v 5 h5_47 (by decide)
  have h17_48 := u48.v 17 h17_47 (by decide)
  have h22_48 := u48.v 22 h22_47 (by decide)
  have h31_48 := u48.v 31 h31_47 (by decide)
  have h36_48 := u48.v 36 h36_47 (by decide)
  have h41_48 := u48.v 41 h41_47 (by decide)
  have h46_48 := u48.v 46 h46_47 (by decide)
  have h51_48 := u48.v 51 h51_47 (by decide)
  clear h1_47 h2_47 h4_47 h5_47 h17_47 h22_47 h31_47 h36_47 h41_47 h46_47 h51_47 h56_47 u48 F47
  refine wl_g (yl (e := 57) rfl h57_48) (ex_fa (T := 36) (f := 8) (k := 8) (b := gm) (fun _ _ => by kernel_rfl) h2_48) (by rw [F48.size]; decide) fun a49 u49 (h58_49 : a49.tmps.getD 58 undef = (.pointer (some ⟨gm, 8, none⟩))) => ?_
  have F49 := F48.pt u49
  have h1_49 := u49.v 1 h1_48 (by decide)
  have h2_49 := u49.v 2 h2_48 (by decide)
  have h4_49 := u49.v 4 h4_48 (by decide)
  have h5_49 := u49.v 5 h5_48 (by decide)
  have h17_49 := u49.v 17 h17_48 (by decide)
  have h22_49 := u49.v 22 h22_48 (by decide)
  have h31_49 := u49.v 31 h31_48 (by decide)
  have h36_49 := u49.v 36 h36_48 (by decide)
  have h41_49 := u49.v 41 h41_48 (by decide)
  have h46_49 := u49.v 46 h46_48 (by decide)
  have h51_49 := u49.v 51 h51_48 (by decide)
  have h57_49 := u49.v 57 h57_48 (by decide)
  clear h1_48 h2_48 h4_48 h5_48 h17_48 h22_48 h31_48 h36_48 h41_48 h46_48 h51_48 h57_48 u49 F48
  refine wl_g (yl (e := 57) rfl h57_49) (ex_ld (v := (.float .f64 (fb st))) (ad := ⟨gm, 8, none⟩) (fun _ => by kernel_rfl) h58_49 (Bm_1.cell 8)) (by rw [F49.size]; decide) fun a50 u50 (h59_50 : a50.tmps.getD 59 undef = (.float .f64 (fb st))) => ?_
  have F50 := F49.pt u50
  have h1_50 := u50.v 1 h1_49 (by decide)
  have h2_50 := u50.v 2 h2_49 (by decide)
  have h4_50 := u50.v 4 h4_49 (by decide)
  have h5_50 := u50.v 5 h5_49 (by decide)
  have h17_50 := u50.v 17 h17_49 (by decide)
  have h22_50 := u50.v 22 h22_49 (by decide)
  have h31_50 := u50.v 31 h31_49 (by decide)
  have h36_50 := u50.v 36 h36_49 (by decide)
  have h41_50 := u50.v 41 h41_49 (by decide)
  have h46_50 := u50.v 46 h46_49 (by decide)
  have h51_50 := u50.v 51 h51_49 (by decide)
  have h57_50 := u50.v 57 h57_49 (by decide)
  clear h1_49 h2_49 h4_49 h5_49 h17_49 h22_49 h31_49 h36_49 h41_49 h46_49 h51_49 h57_49 h58_49 u50 F49
  refine wl_gc (yl (e := 57) rfl h57_50) (args := #[(.float .f64 (fb st))]) (R := fun v w' => v = (.bool true) ∧ (w1 = w')) (ex_cl (fun _ _ => by kernel_rfl) (arg1 h59_50)) ((plain_any st (by omega) _).mono fun _ _ h => ⟨_, h.1, rfl, h.2⟩) (by rw [F50.size]; decide) ?_
  rintro v w' ⟨rfl, rfl⟩
  intro a51 u51 h60_51
  have F51 := F50.pt u51
  have h1_51 := u51.v 1 h1_50 (by decide)
  have h2_51 := u51.v 2 h2_50 (by decide)
  have h4_51 := u51.v 4 h4_50 (by decide)
  have h5_51 := u51.v 5 h5_50 (by decide)
  have h17_51 := u51.v 17 h17_50 (by decide)
  have h22_51 := u51.v 22 h22_50 (by decide)
  have h31_51 := u51.v 31 h31_50 (by decide)
  have h36_51 := u51.v 36 h36_50 (by decide)
  have h41_51 := u51.v 41 h41_50 (by decide)
  have h46_51 := u51.v 46 h46_50 (by decide)
  have h51_51 := u51.v 51 h51_50 (by decide)
  have h57_51 := u51.v 57 h57_50 (by decide)
  clear h1_50 h2_50 h4_50 h5_50 h17_50 h22_50 h31_50 h36_50 h41_50 h46_50 h51_50 h57_50 h59_50 u51 F50
  refine wl_g (yl (e := 57) rfl h57_51) (ex_un (vx := (.bool true)) (v := (.bool false)) h60_51 rfl) (by rw [F51.size]; decide) fun a52 u52 (h61_52 : a52.tmps.getD 61 undef = (.bool false)) => ?_
  have F52 := F51.pt u52
  have h1_52 := u52.v 1 h1_51 (by decide)
  have h2_52 := u52.v 2 h2_51 (by decide)
  have h4_52 := u52.v 4 h4_51 (by decide)
  have h5_52 := u52.v 5 h5_51 (by decide)
  have h17_52 := u52.v 17 h17_51 (by decide)
  have h22_52 := u52.v 22 h22_51 (by decide)
  have h31_52 := u52.v 31 h31_51 (by decide)
  have h36_52 := u52.v 36 h36_51 (by decide)
  have h41_52 := u52.v 41 h41_51 (by decide)
  have h46_52 := u52.v 46 h46_51 (by decide)
  have h51_52 := u52.v 51 h51_51 (by decide)
  have h57_52 := u52.v 57 h57_51 (by decide)
  clear h1_51 h2_51 h4_51 h5_51 h17_51 h22_51 h31_51 h36_51 h41_51 h46_51 h51_51 h57_51 h60_51 u52 F51
  refine wl_p (ex_pick (q := false) (v := (.bool false)) h57_52 h61_52) (by rw [F52.size]; decide) fun a53 u53 (h62_53 : a53.tmps.getD 62 undef = (.bool false)) => ?_
  have F53 := F52.pt u53
  have h1_53 := u53.v 1 h1_52 (by decide)
  have h2_53 := u53.v 2 h2_52 (by decide)
  have h4_53 := u53.v 4 h4_52 (by decide)
  have h5_53 := u53.v 5 h5_52 (by decide)
  have h17_53 := u53.v 17 h17_52 (by decide)
  have h22_53 := u53.v 22 h22_52 (by decide)
  have h31_53 := u53.v 31 h31_52 (by decide)
  have h36_53 := u53.v 36 h36_52 (by decide)
  have h41_53 := u53.v 41 h41_52 (by decide)
  have h46_53 := u53.v 46 h46_52 (by decide)
  have h51_53 := u53.v 51 h51_52 (by decide)
  have h57_53 := u53.v 57 h57_52 (by decide)
  clear h1_52 h2_52 h4_52 h5_52 h17_52 h22_52 h31_52 h36_52 h41_52 h46_52 h51_52 h57_52 h61_52 u53 F52
  change Code.wp _ _ _ _ _
  refine wp_cond_false h62_53 ?_
  refine wp_skip ?_
  change Code.wp _ _ _ _ _
  refine wp_seq ?_
  refine rg_list ?_
  refine wl_p (ex_fa (T := 36) (f := 13) (k := 13) (b := gm) (fun _ _ => by kernel_rfl) h2_53) (by rw [F53.size]; decide) fun a54 u54 (h64_54 : a54.tmps.getD 64 undef = (.pointer (some ⟨gm, 13, none⟩))) => ?_
  have F54 := F53.pt u54
  have h1_54 := u54.v 1 h1_53 (by decide)
  have h2_54 := u54.v 2 h2_53 (by decide)
  have h4_54 := u54.v 4 h4_53 (by decide)
  have h5_54 := u54.v 5 h5_53 (by decide)
  clear h1_53 h2_53 h4_53 h5_53 h17_53 h22_53 h31_53 h36_53 h41_53 h46_53 h51_53 h57_53 h62_53 u54 F53
  refine wl_p (ex_ld (v := (.int .i64 win)) (ad := ⟨gm, 13, none⟩) (fun _ => by kernel_rfl) h64_54 (Bm_1.cell 13)) (by rw [F54.size]; decide) fun a55 u55 (h65_55 : a55.tmps.getD 65 undef = (.int .i64 win)) => ?_
  have F55 := F54.pt u55
  have h1_55 := u55.v 1 h1_54 (by decide)
  have h2_55 := u55.v 2 h2_54 (by decide)
  have h4_55 := u55.v 4 h4_54 (by decide)
  have h5_55 := u55.v 5 h5_54 (by decide)
  clear h1_54 h2_54 h4_54 h5_54 h64_54 u55 F54
  refine wl_p (ex_conv (vx := (.int .i64 win)) (v := (.int .u64 win)) h65_55 (cv_iu _ (by omega) _)) (by rw [F55.size]; decide) fun a56 u56 (h66_56 : a56.tmps.getD 66 undef = (.int .u64 win)) => ?_
  have F56 := F55.pt u56
  have h1_56 := u56.v 1 h1_55 (by decide)
  have h2_56 := u56.v 2 h2_55 (by decide)
  have h4_56 := u56.v 4 h4_55 (by decide)
  have h5_56 := u56.v 5 h5_55 (by decide)
  clear h1_55 h2_55 h4_55 h5_55 h65_55 u56 F55
  refine wl_p (ex_fa (T := 36) (f := 2) (k := 2) (b := gm) (fun _ _ => by kernel_rfl) h2_56) (by rw [F56.size]; decide) fun a57 u57 (h67_57 : a57.tmps.getD 67 undef = (.pointer (some ⟨gm, 2, none⟩))) => ?_
  have F57 := F56.pt u57
  have h1_57 := u57.v 1 h1_56 (by decide)
  have h2_57 := u57.v 2 h2_56 (by decide)
  have h4_57 := u57.v 4 h4_56 (by decide)
  have h5_57 := u57.v 5 h5_56 (by decide)
  have h66_57 := u57.v 66 h66_56 (by decide)
  clear h1_56 h2_56 h4_56 h5_56 h66_56 u57 F56
  refine wl_p (ex_ld (v := sv) (ad := ⟨gm, 2, none⟩) (fun _ => by kernel_rfl) h67_57 (Bm_1.cell 2)) (by rw [F57.size]; decide) fun a58 u58 (h68_58 : a58.tmps.getD 68 undef = sv) => ?_
  have F58 := F57.pt u58
  have h1_58 := u58.v 1 h1_57 (by decide)
  have h2_58 := u58.v 2 h2_57 (by decide)
  have h4_58 := u58.v 4 h4_57 (by decide)
  have h5_58 := u58.v 5 h5_57 (by decide)
  have h66_58 := u58.v 66 h66_57 (by decide)
  clear h1_57 h2_57 h4_57 h5_57 h66_57 h67_57 u58 F57
  refine wl_p (ex_bi (w' := w1) (args := #[sv]) (v := (.int .i64 segs.length)) (arg1 h68_58) (hsv.len _)) (by rw [F58.size]; decide) fun a59 u59 (h69_59 : a59.tmps.getD 69 undef = (.int .i64 segs.length)) => ?_
  have F59 := F58.pt u59
  have h1_59 := u59.v 1 h1_58 (by decide)
  have h2_59 := u59.v 2 h2_58 (by decide)
  have h4_59 := u59.v 4 h4_58 (by decide)
  have h5_59 := u59.v 5 h5_58 (by decide)
  have h66_59 := u59.v 66 h66_58 (by decide)
  clear h1_58 h2_58 h4_58 h5_58 h66_58 h68_58 u59 F58
  refine wl_p (ex_bi (w' := w1) (args := #[(.int .i64 1), (.int .i64 segs.length)]) (v := (.int .i64 cap)) (arg2 rfl h69_59) ((max_run _ _).trans (by rw [← hcap]))) (by rw [F59.size]; decide) fun a60 u60 (h70_60 : a60.tmps.getD 70 undef = (.int .i64 cap)) => ?_
  have F60 := F59.pt u60
  have h1_60 := u60.v 1 h1_59 (by decide)
  have h2_60 := u60.v 2 h2_59 (by decide)
  have h4_60 := u60.v 4 h4_59 (by decide)
  have h5_60 := u60.v 5 h5_59 (by decide)
  have h66_60 := u60.v 66 h66_59 (by decide)
  clear h1_59 h2_59 h4_59 h5_59 h66_59 h69_59 u60 F59
  refine wl_p (ex_conv (vx := (.int .i64 cap)) (v := (.int .u64 cap)) h70_60 (cv_iu _ (by omega) _)) (by rw [F60.size]; decide) fun a61 u61 (h71_61 : a61.tmps.getD 71 undef = (.int .u64 cap)) => ?_
  have F61 := F60.pt u61
  have h1_61 := u61.v 1 h1_60 (by decide)
  have h2_61 := u61.v 2 h2_60 (by decide)
  have h4_61 := u61.v 4 h4_60 (by decide)
  have h5_61 := u61.v 5 h5_60 (by decide)
  have h66_61 := u61.v 66 h66_60 (by decide)
  clear h1_60 h2_60 h4_60 h5_60 h66_60 h70_60 u61 F60
  refine wl_cl (args := #[(.int .u64 win), (.int .u64 cap)]) (R := fun v w' => ∃ b g, v = .tuple #[pt b, .nilIface] ∧ Blk w' b 70 #[(.float .f64 0), (.int .u64 0), (.slice (some ⟨g, 0, none⟩) cap cap), (.string { data := #[] }), (.bool false), (.bool false), (.int .u64 0), (.int .u64 0), (.float .f64 0), (.bool false), (.bool false), (.int .i64 0), (.int .u64 win), (.int .u64 cap), (.int .u64 0), (.int .u64 0), (.int .u64 0), (.slice none 0 0), (.int .i64 0), (.int .i8 0), (.int .u8 3), (.pointer none), (.pointer none)] ∧ Blk w' g 74 (Array.replicate cap (.pointer none)) ∧ g ≠ b ∧ w1.grownBy w' none ∧ w1.heap.size ≤ b ∧ w1.heap.size ≤ g) (ex_cl (fun _ _ => by kernel_rfl) (arg2 h66_61 h71_61)) ((newpl (by omega) (by omega)).mono fun _ _ ⟨b, g, h⟩ => ⟨_, h.1, b, g, rfl, h.2⟩) (by rw [F61.size]; decide) ?_
  rintro v w2 ⟨gp, gg, rfl, Bp_2, Bg_2, hgp, G2, hlp, hlg⟩
  have ne_m_p : gm ≠ gp := by have := Bm_1.lt; omega
  have ne_m_g : gm ≠ gg := by have := Bm_1.lt; omega
  have lo_p : w0.heap.size ≤ gp := by have := Kp1.size; omega
  have lo_g : w0.heap.size ≤ gg := by have := Kp1.size; omega
  have Bm_2 := Bm_1.gn G2
  have Kp2 := Kp1.new G2
  intro a62 u62 h72_62
  have F62 := F61.pt u62
  have h1_62 := u62.v 1 h1_61 (by decide)
  have h2_62 := u62.v 2 h2_61 (by decide)
  have h4_62 := u62.v 4 h4_61 (by decide)
  have h5_62 := u62.v 5 h5_61 (by decide)
  clear h1_61 h2_61 h4_61 h5_61 h66_61 h71_61 u62 F61
  clear Bm_1 Kp1 G2 hlp hlg
  refine wl_p (ex_mv (v := (.tuple #[(.pointer (some ⟨gp, 0, none⟩)), .nilIface])) h72_62) (by rw [F62.size]; decide) fun a63 u63 (h63_63 : a63.tmps.getD 63 undef = (.tuple #[(.pointer (some ⟨gp, 0, none⟩)), .nilIface])) => ?_
  have F63 := F62.pt u63
  have h1_63 := u63.v 1 h1_62 (by decide)
  have h2_63 := u63.v 2 h2_62 (by decide)
  have h4_63 := u63.v 4 h4_62 (by decide)
  have h5_63 := u63.v 5 h5_62 (by decide)
  clear h1_62 h2_62 h4_62 h5_62 h72_62 u63 F62
  refine wl_p (ex_ext (vs := #[(.pointer (some ⟨gp, 0, none⟩)), .nilIface]) (v := (.pointer (some ⟨gp, 0, none⟩))) h63_63 rfl) (by rw [F63.size]; decide) fun a64 u64 (h73_64 : a64.tmps.getD 73 undef = (.pointer (some ⟨gp, 0, none⟩))) => ?_
  have F64 := F63.pt u64
  have h1_64 := u64.v 1 h1_63 (by decide)
  have h2_64 := u64.v 2 h2_63 (by decide)
  have h4_64 := u64.v 4 h4_63 (by decide)
  have h5_64 := u64.v 5 h5_63 (by decide)
  have h63_64 := u64.v 63 h63_63 (by decide)
  clear h1_63 h2_63 h4_63 h5_63 h63_63 u64 F63
  refine wl_p (ex_ext (vs := #[(.pointer (some ⟨gp, 0, none⟩)), .nilIface]) (v := .nilIface) h63_64 rfl) (by rw [F64.size]; decide) fun a65 u65 (h74_65 : a65.tmps.getD 74 undef = .nilIface) => ?_
  have F65 := F64.pt u65
  have h1_65 := u65.v 1 h1_64 (by decide)
  have h2_65 := u65.v 2 h2_64 (by decide)
  have h4_65 := u65.v 4 h4_64 (by decide)
  have h5_65 := u65.v 5 h5_64 (by decide)
  have h73_65 := u65.v 73 h73_64 (by decide)
  clear h1_64 h2_64 h4_64 h5_64 h63_64 h73_64 u65 F64
  refine wl_p (ex_as (v := (.pointer (some ⟨gp, 0, none⟩))) h73_65) (by rw [F65.size]; decide) fun a66 u66 (h6_66 : a66.tmps.getD 6 undef = (.pointer (some ⟨gp, 0, none⟩))) => ?_
  have F66 := F65.pt u66
  have h1_66 := u66.v 1 h1_65 (by decide)
  have h2_66 := u66.v 2 h2_65 (by decide)
  have h4_66 := u66.v 4 h4_65 (by decide)
  have h5_66 := u66.v 5 h5_65 (by decide)
  have h74_66 := u66.v 74 h74_65 (by decide)
  clear h1_65 h2_65 h4_65 h5_65 h73_65 h74_65 u66 F65
  refine wl_p (ex_as (v := .nilIface) h74_66) (by rw [F66.size]; decide) fun a67 u67 (h7_67 : a67.tmps.getD 7 undef = .nilIface) => ?_
  have F67 := F66.pt u67
  have h1_67 := u67.v 1 h1_66 (by decide)
  have h2_67 := u67.v 2 h2_66 (by decide)
  have h4_67 := u67.v 4 h4_66 (by decide)
  have h5_67 := u67.v 5 h5_66 (by decide)
  have h6_67 := u67.v 6 h6_66 (by decide)
  clear h1_66 h2_66 h4_66 h5_66 h74_66 h6_66 u67 F66
  change Code.wp _ _ _ _ _
  refine wp_seq ?_
  refine wp_seq ?_
  refine rg_list ?_
  refine wl_p (ex_mv (v := .nilIface) h7_67) (by rw [F67.size]; decide) fun a68 u68 (h75_68 : a68.tmps.getD 75 undef = .nilIface) => ?_
  have F68 := F67.pt u68
  have h1_68 := u68.v 1 h1_67 (by decide)
  have h2_68 := u68.v 2 h2_67 (by decide)
  have h4_68 := u68.v 4 h4_67 (by decide)
  have h5_68 := u68.v 5 h5_67 (by decide)
  have h6_68 := u68.v 6 h6_67 (by decide)
  clear h1_67 h2_67 h4_67 h5_67 h6_67 h7_67 u68 F67
  refine wl_p (ex_bin (vx := .nilIface) (vy := .nilIface) (v := (.bool false)) h75_68 rfl (by kernel_rfl)) (by rw [F68.size]; decide) fun a69 u69 (h76_69 : a69.tmps.getD 76 undef = (.bool false)) => ?_
  have F69 := F68.pt u69
  have h1_69 := u69.v 1 h1_68 (by decide)
  have h2_69 := u69.v 2 h2_68 (by decide)
  have h4_69 := u69.v 4 h4_68 (by decide)
  have h5_69 := u69.v 5 h5_68 (by decide)
  have h6_69 := u69.v 6 h6_68 (by decide)
  clear h1_68 h2_68 h4_68 h5_68 h6_68 h75_68 u69 F68
  change Code.wp _ _ _ _ _
  refine wp_cond_false h76_69 ?_
  refine wp_skip ?_
  change Code.wp _ _ _ _ _
  refine wp_seq ?_
  refine rg_list ?_
  refine wl_p (ex_mv (v := (.pointer (some ⟨gp, 0, none⟩))) h6_69) (by rw [F69.size]; decide) fun a70 u70 (h77_70 : a70.tmps.getD 77 undef = (.pointer (some ⟨gp, 0, none⟩))) => ?_
  have F70 := F69.pt u70
  have h1_70 := u70.v 1 h1_69 (by decide)
  have h2_70 := u70.v 2 h2_69 (by decide)
  have h4_70 := u70.v 4 h4_69 (by decide)
  have h5_70 := u70.v 5 h5_69 (by decide)
  have h6_70 := u70.v 6 h6_69 (by decide)
  clear h1_69 h2_69 h4_69 h5_69 h6_69 h76_69 u70 F69
  refine wl_p (ex_fa (T := 36) (f := 1) (k := 1) (b := gm) (fun _ _ => by kernel_rfl) h2_70) (by rw [F70.size]; decide) fun a71 u71 (h78_71 : a71.tmps.getD 78 undef = (.pointer (some ⟨gm, 1, none⟩))) => ?_
  have F71 := F70.pt u71
  have h1_71 := u71.v 1 h1_70 (by decide)
  have h2_71 := u71.v 2 h2_70 (by decide)
  have h4_71 := u71.v 4 h4_70 (by decide)
  have h5_71 := u71.v 5 h5_70 (by decide)
  have h6_71 := u71.v 6 h6_70 (by decide)
  have h77_71 := u71.v 77 h77_70 (by decide)
  clear h1_70 h2_70 h4_70 h5_70 h6_70 h77_70 u71 F70
  refine wl_p (ex_ld (v := (.int .u64 seq)) (ad := ⟨gm, 1, none⟩) (fun _ => by kernel_rfl) h78_71 (Bm_2.cell 1)) (by rw [F71.size]; decide) fun a72 u72 (h79_72 : a72.tmps.getD 79 undef = (.int .u64 seq)) => ?_
  have F72 := F71.pt u72
  have h1_72 := u72.v 1 h1_71 (by decide)
  have h2_72 := u72.v 2 h2_71 (by decide)
  have h4_72 := u72.v 4 h4_71 (by decide)
  have h5_72 := u72.v 5 h5_71 (by decide)
  have h6_72 := u72.v 6 h6_71 (by decide)
  have h77_72 := u72.v 77 h77_71 (by decide)
  clear h1_71 h2_71 h4_71 h5_71 h6_71 h77_71 h78_71 u72 F71
  refine wl_p (ex_nil (ad := ⟨gp, 0, none⟩) h77_72) (by rw [F72.size]; decide) fun a73 u73 (h80_73 : a73.tmps.getD 80 undef = (.pointer (some ⟨gp, 0, none⟩))) => ?_
  have F73 := F72.pt u73
  have h1_73 := u73.v 1 h1_72 (by decide)
  have h2_73 := u73.v 2 h2_72 (by decide)
  have h4_73 := u73.v 4 h4_72 (by decide)
  have h5_73 := u73.v 5 h5_72 (by decide)
  have h6_73 := u73.v 6 h6_72 (by decide)
  have h79_73 := u73.v 79 h79_72 (by decide)
  clear h1_72 h2_72 h4_72 h5_72 h6_72 h77_72 h79_72 u73 F72
  refine wl_p (ex_fa (T := 70) (f := 1) (k := 1) (b := gp) (fun _ _ => by kernel_rfl) h80_73) (by rw [F73.size]; decide) fun a74 u74 (h81_74 : a74.tmps.getD 81 undef = (.pointer (some ⟨gp, 1, none⟩))) => ?_
  have F74 := F73.pt u74
  have h1_74 := u74.v 1 h1_73 (by decide)
  have h2_74 := u74.v 2 h2_73 (by decide)
  have h4_74 := u74.v 4 h4_73 (by decide)
  have h5_74 := u74.v 5 h5_73 (by decide)
  have h6_74 := u74.v 6 h6_73 (by decide)
  have h79_74 := u74.v 79 h79_73 (by decide)
  clear h1_73 h2_73 h4_73 h5_73 h6_73 h79_73 h80_73 u74 F73
  obtain ⟨w3, hr3, Bp_3, G3⟩ := st_run (T := 25) (o := 1) (v := (.int .u64 seq)) (cs' := #[(.float .f64 0), (.int .u64 seq), (.slice (some ⟨gg, 0, none⟩) cap cap), (.string { data := #[] }), (.bool false), (.bool false), (.int .u64 0), (.int .u64 0), (.float .f64 0), (.bool false), (.bool false), (.int .i64 0), (.int .u64 win), (.int .u64 cap), (.int .u64 0), (.int .u64 0), (.int .u64 0), (.slice none 0 0), (.int .i64 0), (.int .i8 0), (.int .u8 3), (.pointer none), (.pointer none)]) (fun _ => by kernel_rfl) Bp_2 rfl (by simp) rfl
  have Bm_3 := Bm_2.gk G3 ne_m_p
  have Bg_3 := Bg_2.gk G3 hgp
  have Kp3 := Kp2.set G3 (Or.inr lo_p)
  refine wl_n (ex_st h81_74 h79_74 hr3) ?_
  clear Bm_2 Bg_2 Kp2 Bp_2 hr3 G3
  change Code.wp _ _ _ _ _
  refine wp_seq ?_
  refine rg_list ?_
  refine wl_p (ex_mv (v := (.pointer (some ⟨gp, 0, none⟩))) h6_74) (by rw [F74.size]; decide) fun a75 u75 (h82_75 : a75.tmps.getD 82 undef = (.pointer (some ⟨gp, 0, none⟩))) => ?_
  have F75 := F74.pt u75
  have h1_75 := u75.v 1 h1_74 (by decide)
  have h2_75 := u75.v 2 h2_74 (by decide)
  have h4_75 := u75.v 4 h4_74 (by decide)
  have h5_75 := u75.v 5 h5_74 (by decide)
  have h6_75 := u75.v 6 h6_74 (by decide)
  clear h1_74 h2_74 h4_74 h5_74 h6_74 h79_74 h81_74 u75 F74
  refine wl_p (ex_fa (T := 36) (f := 0) (k := 0) (b := gm) (fun _ _ => by kernel_rfl) h2_75) (by rw [F75.size]; decide) fun a76 u76 (h83_76 : a76.tmps.getD 83 undef = (.pointer (some ⟨gm, 0, none⟩))) => ?_
  have F76 := F75.pt u76
  have h1_76 := u76.v 1 h1_75 (by decide)
  have h2_76 := u76.v 2 h2_75 (by decide)
  have h4_76 := u76.v 4 h4_75 (by decide)
  have h5_76 := u76.v 5 h5_75 (by decide)
  have h6_76 := u76.v 6 h6_75 (by decide)
  have h82_76 := u76.v 82 h82_75 (by decide)
  clear h1_75 h2_75 h4_75 h5_75 h6_75 h82_75 u76 F75
  refine wl_p (ex_ld (v := (.float .f64 (fn T))) (ad := ⟨gm, 0, none⟩) (fun _ => by kernel_rfl) h83_76 (Bm_3.cell 0)) (by rw [F76.size]; decide) fun a77 u77 (h84_77 : a77.tmps.getD 84 undef = (.float .f64 (fn T))) => ?_
  have F77 := F76.pt u77
  have h1_77 := u77.v 1 h1_76 (by decide)
  have h2_77 := u77.v 2 h2_76 (by decide)
  have h4_77 := u77.v 4 h4_76 (by decide)
  have h5_77 := u77.v 5 h5_76 (by decide)
  have h6_77 := u77.v 6 h6_76 (by decide)
  have h82_77 := u77.v 82 h82_76 (by decide)
  clear h1_76 h2_76 h4_76 h5_76 h6_76 h82_76 h83_76 u77 F76
  refine wl_p (ex_nil (ad := ⟨gp, 0, none⟩) h82_77) (by rw [F77.size]; decide) fun a78 u78 (h85_78 : a78.tmps.getD 85 undef = (.pointer (some ⟨gp, 0, none⟩))) => ?_
  have F78 := F77.pt u78
  have h1_78 := u78.v 1 h1_77 (by decide)
  have h2_78 := u78.v 2 h2_77 (by decide)
  have h4_78 := u78.v 4 h4_77 (by decide)
  have h5_78 := u78.v 5 h5_77 (by decide)
  have h6_78 := u78.v 6 h6_77 (by decide)
  have h84_78 := u78.v 84 h84_77 (by decide)
  clear h1_77 h2_77 h4_77 h5_77 h6_77 h82_77 h84_77 u78 F77
  refine wl_p (ex_fa (T := 70) (f := 0) (k := 0) (b := gp) (fun _ _ => by kernel_rfl) h85_78) (by rw [F78.size]; decide) fun a79 u79 (h86_79 : a79.tmps.getD 86 undef = (.pointer (some ⟨gp, 0, none⟩))) => ?_
  have F79 := F78.pt u79
  have h1_79 := u79.v 1 h1_78 (by decide)
  have h2_79 := u79.v 2 h2_78 (by decide)
  have h4_79 := u79.v 4 h4_78 (by decide)
  have h5_79 := u79.v 5 h5_78 (by decide)
  have h6_79 := u79.v 6 h6_78 (by decide)
  have h84_79 := u79.v 84 h84_78 (by decide)
  clear h1_78 h2_78 h4_78 h5_78 h6_78 h84_78 h85_78 u79 F78
  obtain ⟨w4, hr4, Bp_4, G4⟩ := st_run (T := 24) (o := 0) (v := (.float .f64 (fn T))) (cs' := #[(.float .f64 (fn T)), (.int .u64 seq), (.slice (some ⟨gg, 0, none⟩) cap cap), (.string { data := #[] }), (.bool false), (.bool false), (.int .u64 0), (.int .u64 0), (.float .f64 0), (.bool false), (.bool false), (.int .i64 0), (.int .u64 win), (.int .u64 cap), (.int .u64 0), (.int .u64 0), (.int .u64 0), (.slice none 0 0), (.int .i64 0), (.int .i8 0), (.int .u8 3), (.pointer none), (.pointer none)]) (fun _ => by kernel_rfl) Bp_3 rfl (by simp) rfl
  have Bm_4 := Bm_3.gk G4 ne_m_p
  have Bg_4 := Bg_3.gk G4 hgp
  have Kp4 := Kp3.set G4 (Or.inr lo_p)
  refine wl_n (ex_st h86_79 h84_79 hr4) ?_
  clear Bm_3 Bg_3 Kp3 Bp_3 hr4 G4
  change Code.wp _ _ _ _ _
  refine wp_seq ?_
  refine wp_seq ?_
  refine rg_list ?_
  refine wl_p (ex_fa (T := 36) (f := 2) (k := 2) (b := gm) (fun _ _ => by kernel_rfl) h2_79) (by rw [F79.size]; decide) fun a80 u80 (h87_80 : a80.tmps.getD 87 undef = (.pointer (some ⟨gm, 2, none⟩))) => ?_
  have F80 := F79.pt u80
  have h1_80 := u80.v 1 h1_79 (by decide)
  have h2_80 := u80.v 2 h2_79 (by decide)
  have h4_80 := u80.v 4 h4_79 (by decide)
  have h5_80 := u80.v 5 h5_79 (by decide)
  have h6_80 := u80.v 6 h6_79 (by decide)
  clear h1_79 h2_79 h4_79 h5_79 h6_79 h84_79 h86_79 u80 F79
  refine wl_p (ex_ld (v := sv) (ad := ⟨gm, 2, none⟩) (fun _ => by kernel_rfl) h87_80 (Bm_4.cell 2)) (by rw [F80.size]; decide) fun a81 u81 (h88_81 : a81.tmps.getD 88 undef = sv) => ?_
  have F81 := F80.pt u81
  have h1_81 := u81.v 1 h1_80 (by decide)
  have h2_81 := u81.v 2 h2_80 (by decide)
  have h4_81 := u81.v 4 h4_80 (by decide)
  have h5_81 := u81.v 5 h5_80 (by decide)
  have h6_81 := u81.v 6 h6_80 (by decide)
  clear h1_80 h2_80 h4_80 h5_80 h6_80 h87_80 u81 F80
  refine wl_p (ex_bi (w' := w4) (args := #[sv]) (v := (.int .i64 segs.length)) (arg1 h88_81) (hsv.len _)) (by rw [F81.size]; decide) fun a82 u82 (h89_82 : a82.tmps.getD 89 undef = (.int .i64 segs.length)) => ?_
  have F82 := F81.pt u82
  have h1_82 := u82.v 1 h1_81 (by decide)
  have h2_82 := u82.v 2 h2_81 (by decide)
  have h4_82 := u82.v 4 h4_81 (by decide)
  have h5_82 := u82.v 5 h5_81 (by decide)
  have h6_82 := u82.v 6 h6_81 (by decide)
  have h88_82 := u82.v 88 h88_81 (by decide)
  clear h1_81 h2_81 h4_81 h5_81 h6_81 h88_81 u82 F81
  refine wl_p (ex_mv (v := (.int .i64 0)) rfl) (by rw [F82.size]; decide) fun a83 u83 (h90_83 : a83.tmps.getD 90 undef = (.int .i64 0)) => ?_
  have F83 := F82.pt u83
  have h1_83 := u83.v 1 h1_82 (by decide)
  have h2_83 := u83.v 2 h2_82 (by decide)
  have h4_83 := u83.v 4 h4_82 (by decide)
  have h5_83 := u83.v 5 h5_82 (by decide)
  have h6_83 := u83.v 6 h6_82 (by decide)
  have h88_83 := u83.v 88 h88_82 (by decide)
  have h89_83 := u83.v 89 h89_82 (by decide)
  clear h1_82 h2_82 h4_82 h5_82 h6_82 h88_82 h89_82 u83 F82
  change Code.wp _ _ _ _ _
  have hz1 : (Array.replicate cap (Value.pointer none)).size = cap := by simp
  have Bi := Bp_4.to (cs' := #[(.float .f64 (fn (tmax T (segs.take 0)))), (.int .u64 seq), (.slice (some ⟨gg, 0, none⟩) cap cap), (.string { data := #[] }), (.bool false), (.bool false), (.int .u64 0), (.int .u64 0), (.float .f64 0), (.bool false), (.bool false), (.int .i64 0), (.int .u64 win), (.int .u64 cap), (.int .u64 0), (.int .u64 ((0 % cap) : Nat)), (.int .u64 (0 : Nat)), (.slice none 0 0), (.int .i64 0), (.int .i8 0), (.int .u8 3), (.pointer none), (.pointer none)]) (by simp [tmax])
  refine wp_block (wp_loop (fun a w => ∃ j arr, j ≤ segs.length ∧ Fz 201 a ∧ a.tmps.getD 1 undef = (.bool wh) ∧ a.tmps.getD 2 undef = (.pointer (some ⟨gm, 0, none⟩)) ∧ a.tmps.getD 6 undef = (.pointer (some ⟨gp, 0, none⟩)) ∧ a.tmps.getD 88 undef = sv ∧ a.tmps.getD 89 undef = (.int .i64 segs.length) ∧ a.tmps.getD 90 undef = (.int .i64 (j : Nat)) ∧ Kp [] w0 w ∧ Blk w gm 36 #[(.float .f64 (fn T)), (.int .u64 seq), sv, (.string { data := #[] }), (.bool ifr), (.bool clo), (.int .i64 ty), (.int .u64 dsq), (.float .f64 (fb st)), (.bool pre), (.int .i64 ver), kv, mv, (.int .i64 win)] ∧ Blk w gp 70 #[(.float .f64 (fn (tmax T (segs.take j)))), (.int .u64 seq), (.slice (some ⟨gg, 0, none⟩) cap cap), (.string { data := #[] }), (.bool false), (.bool false), (.int .u64 0), (.int .u64 0), (.float .f64 0), (.bool false), (.bool false), (.int .i64 0), (.int .u64 win), (.int .u64 cap), (.int .u64 0), (.int .u64 ((j % cap) : Nat)), (.int .u64 (j : Nat)), (.slice none 0 0), (.int .i64 0), (.int .i8 0), (.int .u8 3), (.pointer none), (.pointer none)] ∧ Blk w gg 74 arr ∧ arr.size = cap ∧ SegsAt w w0.heap.size w.heap.size seq segs j arr) (fun a _ => segs.length - (intOf (a.tmps.getD 90 undef)).toNat) ⟨0, _, by omega, F83, h1_83, h2_83, h6_83, h88_83, h89_83, h90_83, Kp4, Bm_4, Bi, Bg_4, hz1, SegsAt.zero⟩ ?_)
  clear h1_83 h2_83 h4_83 h5_83 h6_83 h88_83 h89_83 h90_83 F83 Bi hz1 Kp4 Bm_4 Bp_4 Bg_4
  rintro a84 w5 ⟨j, arr, hjle, F84, h1_84, h2_84, h6_84, h88_84, h89_84, h90_84, Kp5, Bm_5, Bp_5, Bg_5, hz, sg_5⟩
  rcases Nat.lt_or_ge j segs.length with hj | hj
  case inl =>
    obtain ⟨s, hs⟩ : ∃ s, s = segs[j] := ⟨_, rfl⟩
    have hsj : segs[j]? = some s := by rw [hs]; exact List.getElem?_eq_getElem hj
    obtain ⟨ad, kx, mx, hix, hld, hkx, hmx⟩ := hsv.elem hj
    rw [← hs] at hld hkx hmx
    have hsm : s ∈ segs := by rw [hs]; exact List.getElem_mem hj
    have hej : s.e < 4000 := hes s hsm
    have hk1 := hkx.one
    have hm1 := hmx.one
    have h90S := h90_84
    have hjc : j < cap := by omega
    have hd : segs.length - (j + 1) < segs.length - j := by omega
    have hjm : j % cap = j := Nat.mod_eq_of_lt (by omega)
    rw [hjm] at Bp_5
    have hTj := hTs j hj
    have KpS := Kp5
    have BpS := Bp_5
    have BgS := Bg_5
    have sgS := sg_5
    have Kq_5 := Kp.refl [gp, gg] w5
    clear sg_5
    have BmS := Bm_5
    refine wp_seq ?_
    refine rg_list ?_
    refine wl_p (ex_bin (vx := (.int .i64 j)) (vy := (.int .i64 segs.length)) (v := (.bool true)) h90_84 h89_84 ((bo_lssi _ _ _).trans (by rw [decide_eq_true (by omega)]))) (by rw [F84.size]; decide) fun a85 u85 (h91_85 : a85.tmps.getD 91 undef = (.bool true)) => ?_
    have F85 := F84.pt u85
    have h1_85 := u85.v 1 h1_84 (by decide)
    have h2_85 := u85.v 2 h2_84 (by decide)
    have h6_85 := u85.v 6 h6_84 (by decide)
    have h88_85 := u85.v 88 h88_84 (by decide)
    have h89_85 := u85.v 89 h89_84 (by decide)
    have h90_85 := u85.v 90 h90_84 (by decide)
    clear h1_84 h2_84 h6_84 h88_84 h89_84 h90_84 u85 F84
    change Code.wp _ _ _ _ _
    refine wp_seq ?_
    refine wp_cond_true h91_85 ?_
    refine wp_skip ?_
    change Code.wp _ _ _ _ _
    refine wp_seq ?_
    refine wp_block ?_
    refine wp_seq ?_
    refine rg_list ?_
    refine wl_p (ex_ixg (vx := sv) (vy := (.int .i64 j)) (v := .pointer (some ad)) h88_85 h90_85 (hix _)) (by rw [F85.size]; decide) fun a86 u86 (h92_86 : a86.tmps.getD 92 undef = (.pointer (some ad))) => ?_
    have F86 := F85.pt u86
    have h1_86 := u86.v 1 h1_85 (by decide)
    have h2_86 := u86.v 2 h2_85 (by decide)
    have h6_86 := u86.v 6 h6_85 (by decide)
    have h88_86 := u86.v 88 h88_85 (by decide)
    have h89_86 := u86.v 89 h89_85 (by decide)
    have h90_86 := u86.v 90 h90_85 (by decide)
    clear h1_85 h2_85 h6_85 h88_85 h89_85 h90_85 h91_85 u86 F85
    refine wl_p (ex_lda (vx := .pointer (some ad)) (v := .agg #[(.int .u64 0), (.string s.title), (.string s.uri), (.float .f64 (fb s.e)), (.int .i64 s.li), (.int .i64 s.off), kx, mx, (.slice none 0 0), (.bool s.disc), (.string s.date)]) h92_86 (hld _ Kp5)) (by rw [F86.size]; decide) fun a87 u87 (h93_87 : a87.tmps.getD 93 undef = (.agg #[(.int .u64 0), (.string s.title), (.string s.uri), (.float .f64 (fb s.e)), (.int .i64 s.li), (.int .i64 s.off), kx, mx, (.slice none 0 0), (.bool s.disc), (.string s.date)])) => ?_
    have F87 := F86.pt u87
    have h1_87 := u87.v 1 h1_86 (by decide)
    have h2_87 := u87.v 2 h2_86 (by decide)
    have h6_87 := u87.v 6 h6_86 (by decide)
    have h88_87 := u87.v 88 h88_86 (by decide)
    have h89_87 := u87.v 89 h89_86 (by decide)
    have h90_87 := u87.v 90 h90_86 (by decide)
    clear h1_86 h2_86 h6_86 h88_86 h89_86 h90_86 h92_86 u87 F86
    obtain ⟨gx, hgx⟩ : ∃ g, w5.heap.size = g := ⟨_, rfl⟩
    have ne_m_x : gm ≠ gx := by have := Bm_5.lt; omega
    have ne_p_x : gp ≠ gx := by have := Bp_5.lt; omega
    have ne_g_x : gg ≠ gx := by have := Bg_5.lt; omega
    have ge_x : w0.heap.size ≤ gx := by have := Kp5.size; omega
    have geS_x : w5.heap.size ≤ gx := by have := Kq_5.size; omega
    obtain ⟨w6, hr6, Bx_6, G6, hs6⟩ := al_run (op := Instr.alloc 30 true (.tuple #[])) (T := 30) (cs := #[(.int .u64 0), (.string { data := #[] }), (.string { data := #[] }), (.float .f64 0), (.int .i64 0), (.int .i64 0), (.slice none 0 0), (.slice none 0 0), (.slice none 0 0), (.bool false), (.string { data := #[] })]) hgx (fun _ => by kernel_rfl)
    have Bm_6 := Bm_5.gn G6
    have Bp_6 := Bp_5.gn G6
    have Bg_6 := Bg_5.gn G6
    have Kp6 := Kp5.new G6
    have Kq_6 := Kq_5.new G6
    refine wl_p (ex_al hr6) (by rw [F87.size]; decide) fun a88 u88 (h9_88 : a88.tmps.getD 9 undef = (.pointer (some ⟨gx, 0, none⟩))) => ?_
    have F88 := F87.pt u88
    have h1_88 := u88.v 1 h1_87 (by decide)
    have h2_88 := u88.v 2 h2_87 (by decide)
    have h6_88 := u88.v 6 h6_87 (by decide)
    have h88_88 := u88.v 88 h88_87 (by decide)
    have h89_88 := u88.v 89 h89_87 (by decide)
    have h90_88 := u88.v 90 h90_87 (by decide)
    have h93_88 := u88.v 93 h93_87 (by decide)
    clear h1_87 h2_87 h6_87 h88_87 h89_87 h90_87 h93_87 u88 F87
    clear Bm_5 Bp_5 Bg_5 Kp5 Kq_5 hr6 G6 hs6 hgx
    obtain ⟨w7, hr7, Bx_7, G7⟩ := sta_run (T := 30) (cs := #[(.int .u64 0), (.string s.title), (.string s.uri), (.float .f64 (fb s.e)), (.int .i64 s.li), (.int .i64 s.off), kx, mx, (.slice none 0 0), (.bool s.disc), (.string s.date)]) (fun _ => by kernel_rfl) Bx_6 rfl rfl (by simp [Value.oneCell']; exact ⟨hk1, hm1⟩)
    have Bm_7 := Bm_6.gk G7 ne_m_x
    have Bp_7 := Bp_6.gk G7 ne_p_x
    have Bg_7 := Bg_6.gk G7 ne_g_x
    have Kp7 := Kp6.set G7 (Or.inr ge_x)
    have Kq_7 := Kq_6.set G7 (Or.inr (by have := geS_x; omega))
    refine wl_n (ex_st h9_88 h93_88 hr7) ?_
    clear Bm_6 Bp_6 Bg_6 Kp6 Kq_6 Bx_6 hr7 G7
    change Code.wp _ _ _ _ _
    refine wp_seq ?_
    refine wp_seq ?_
    refine rg_list ?_
    refine wl_p (ex_fa (T := 30) (f := 3) (k := 3) (b := gx) (fun _ _ => by kernel_rfl) h9_88) (by rw [F88.size]; decide) fun a89 u89 (h94_89 : a89.tmps.getD 94 undef = (.pointer (some ⟨gx, 3, none⟩))) => ?_
    have F89 := F88.pt u89
    have h1_89 := u89.v 1 h1_88 (by decide)
    have h2_89 := u89.v 2 h2_88 (by decide)
    have h6_89 := u89.v 6 h6_88 (by decide)
    have h88_89 := u89.v 88 h88_88 (by decide)
    have h89_89 := u89.v 89 h89_88 (by decide)
    have h90_89 := u89.v 90 h90_88 (by decide)
    have h9_89 := u89.v 9 h9_88 (by decide)
    clear h1_88 h2_88 h6_88 h88_88 h89_88 h90_88 h93_88 h9_88 u89 F88
    refine wl_p (ex_ld (v := (.float .f64 (fb s.e))) (ad := ⟨gx, 3, none⟩) (fun _ => by kernel_rfl) h94_89 (Bx_7.cell 3)) (by rw [F89.size]; decide) fun a90 u90 (h95_90 : a90.tmps.getD 95 undef = (.float .f64 (fb s.e))) => ?_
    have F90 := F89.pt u90
    have h1_90 := u90.v 1 h1_89 (by decide)
    have h2_90 := u90.v 2 h2_89 (by decide)
    have h6_90 := u90.v 6 h6_89 (by decide)
    have h88_90 := u90.v 88 h88_89 (by decide)
    have h89_90 := u90.v 89 h89_89 (by decide)
    have h90_90 := u90.v 90 h90_89 (by decide)
    have h9_90 := u90.v 9 h9_89 (by decide)
    clear h1_89 h2_89 h6_89 h88_89 h89_89 h90_89 h9_89 h94_89 u90 F89
    refine wl_cl (args := #[(.float .f64 (fb s.e))]) (R := fun v w' => v = (.bool true) ∧ (w7 = w')) (ex_cl (fun _ _ => by kernel_rfl) (arg1 h95_90)) ((plain_any _ hej _).mono fun _ _ h => ⟨_, h.1, rfl, h.2⟩) (by rw [F90.size]; decide) ?_
    rintro v w' ⟨rfl, rfl⟩
    intro a91 u91 h96_91
    have F91 := F90.pt u91
    have h1_91 := u91.v 1 h1_90 (by decide)
    have h2_91 := u91.v 2 h2_90 (by decide)
    have h6_91 := u91.v 6 h6_90 (by decide)
    have h88_91 := u91.v 88 h88_90 (by decide)
    have h89_91 := u91.v 89 h89_90 (by decide)
    have h90_91 := u91.v 90 h90_90 (by decide)
    have h9_91 := u91.v 9 h9_90 (by decide)
    clear h1_90 h2_90 h6_90 h88_90 h89_90 h90_90 h9_90 h95_90 u91 F90
    refine wl_p (ex_un (vx := (.bool true)) (v := (.bool false)) h96_91 rfl) (by rw [F91.size]; decide) fun a92 u92 (h97_92 : a92.tmps.getD 97 undef = (.bool false)) => ?_
    have F92 := F91.pt u92
    have h1_92 := u92.v 1 h1_91 (by decide)
    have h2_92 := u92.v 2 h2_91 (by decide)
    have h6_92 := u92.v 6 h6_91 (by decide)
    have h88_92 := u92.v 88 h88_91 (by decide)
    have h89_92 := u92.v 89 h89_91 (by decide)
    have h90_92 := u92.v 90 h90_91 (by decide)
    have h9_92 := u92.v 9 h9_91 (by decide)
    clear h1_91 h2_91 h6_91 h88_91 h89_91 h90_91 h9_91 h96_91 u92 F91
    change Code.wp _ _ _ _ _
    refine wp_cond_false h97_92 ?_
    refine wp_skip ?_
    change Code.wp _ _ _ _ _
    refine wp_seq ?_
    refine wp_seq ?_
    refine rg_list ?_
    refine wl_p (ex_fa (T := 30) (f := 8) (k := 8) (b := gx) (fun _ _ => by kernel_rfl) h9_92) (by rw [F92.size]; decide) fun a93 u93 (h98_93 : a93.tmps.getD 98 undef = (.pointer (some ⟨gx, 8, none⟩))) => ?_
    have F93 := F92.pt u93
    have h1_93 := u93.v 1 h1_92 (by decide)
    have h2_93 := u93.v 2 h2_92 (by decide)
    have h6_93 := u93.v 6 h6_92 (by decide)
    have h88_93 := u93.v 88 h88_92 (by decide)
    have h89_93 := u93.v 89 h89_92 (by decide)
    have h90_93 := u93.v 90 h90_92 (by decide)
    have h9_93 := u93.v 9 h9_92 (by decide)
    clear h1_92 h2_92 h6_92 h88_92 h89_92 h90_92 h9_92 h97_92 u93 F92
    refine wl_p (ex_ld (v := (.slice none 0 0)) (ad := ⟨gx, 8, none⟩) (fun _ => by kernel_rfl) h98_93 (Bx_7.cell 8)) (by rw [F93.size]; decide) fun a94 u94 (h99_94 : a94.tmps.getD 99 undef = (.slice none 0 0)) => ?_
    have F94 := F93.pt u94
    have h1_94 := u94.v 1 h1_93 (by decide)
    have h2_94 := u94.v 2 h2_93 (by decide)
    have h6_94 := u94.v 6 h6_93 (by decide)
    have h88_94 := u94.v 88 h88_93 (by decide)
    have h89_94 := u94.v 89 h89_93 (by decide)
    have h90_94 := u94.v 90 h90_93 (by decide)
    have h9_94 := u94.v 9 h9_93 (by decide)
    clear h1_93 h2_93 h6_93 h88_93 h89_93 h90_93 h9_93 h98_93 u94 F93
    refine wl_p (ex_bi (w' := w7) (args := #[(.slice none 0 0)]) (v := (.int .i64 0)) (arg1 h99_94) (by kernel_rfl)) (by rw [F94.size]; decide) fun a95 u95 (h100_95 : a95.tmps.getD 100 undef = (.int .i64 0)) => ?_
    have F95 := F94.pt u95
    have h1_95 := u95.v 1 h1_94 (by decide)
    have h2_95 := u95.v 2 h2_94 (by decide)
    have h6_95 := u95.v 6 h6_94 (by decide)
    have h88_95 := u95.v 88 h88_94 (by decide)
    have h89_95 := u95.v 89 h89_94 (by decide)
    have h90_95 := u95.v 90 h90_94 (by decide)
    have h9_95 := u95.v 9 h9_94 (by decide)
    have h99_95 := u95.v 99 h99_94 (by decide)
    clear h1_94 h2_94 h6_94 h88_94 h89_94 h90_94 h9_94 h99_94 u95 F94
    refine wl_p (ex_mv (v := (.int .i64 0)) rfl) (by rw [F95.size]; decide) fun a96 u96 (h101_96 : a96.tmps.getD 101 undef = (.int .i64 0)) => ?_
    have F96 := F95.pt u96
    have h1_96 := u96.v 1 h1_95 (by decide)
    have h2_96 := u96.v 2 h2_95 (by decide)
    have h6_96 := u96.v 6 h6_95 (by decide)
    have h88_96 := u96.v 88 h88_95 (by decide)
    have h89_96 := u96.v 89 h89_95 (by decide)
    have h90_96 := u96.v 90 h90_95 (by decide)
    have h9_96 := u96.v 9 h9_95 (by decide)
    have h99_96 := u96.v 99 h99_95 (by decide)
    have h100_96 := u96.v 100 h100_95 (by decide)
    clear h1_95 h2_95 h6_95 h88_95 h89_95 h90_95 h9_95 h99_95 h100_95 u96 F95
    change Code.wp _ _ _ _ _
    refine wp_block ?_
    refine wp_loop_once ?_
    refine wp_seq ?_
    refine rg_list ?_
    refine wl_p (ex_bin (vx := (.int .i64 0)) (vy := (.int .i64 0)) (v := (.bool false)) h101_96 h100_96 (by kernel_rfl)) (by rw [F96.size]; decide) fun a97 u97 (h102_97 : a97.tmps.getD 102 undef = (.bool false)) => ?_
    have F97 := F96.pt u97
    have h1_97 := u97.v 1 h1_96 (by decide)
    have h2_97 := u97.v 2 h2_96 (by decide)
    have h6_97 := u97.v 6 h6_96 (by decide)
    have h88_97 := u97.v 88 h88_96 (by decide)
    have h89_97 := u97.v 89 h89_96 (by decide)
    have h90_97 := u97.v 90 h90_96 (by decide)
    have h9_97 := u97.v 9 h9_96 (by decide)
    have h99_97 := u97.v 99 h99_96 (by decide)
    have h101_97 := u97.v 101 h101_96 (by decide)
    clear h1_96 h2_96 h6_96 h88_96 h89_96 h90_96 h9_96 h99_96 h100_96 h101_96 u97 F96
    change Code.wp _ _ _ _ _
    refine wp_seq ?_
    refine wp_cond_false h102_97 ?_
    refine wp_exit ?_
    try simp only [Exit.then]
    refine inBlock_exit ?_
    change Code.wp _ _ _ _ _
    refine wp_seq ?_
    refine rg_list ?_
    refine wl_p (ex_mv (v := (.pointer (some ⟨gp, 0, none⟩))) h6_97) (by rw [F97.size]; decide) fun a98 u98 (h136_98 : a98.tmps.getD 136 undef = (.pointer (some ⟨gp, 0, none⟩))) => ?_
    have F98 := F97.pt u98
    have h1_98 := u98.v 1 h1_97 (by decide)
    have h2_98 := u98.v 2 h2_97 (by decide)
    have h6_98 := u98.v 6 h6_97 (by decide)
    have h88_98 := u98.v 88 h88_97 (by decide)
    have h89_98 := u98.v 89 h89_97 (by decide)
    have h90_98 := u98.v 90 h90_97 (by decide)
    have h9_98 := u98.v 9 h9_97 (by decide)
    clear h1_97 h2_97 h6_97 h88_97 h89_97 h90_97 h9_97 h99_97 h101_97 h102_97 u98 F97
    refine wl_p (ex_lda (vx := (.pointer (some ⟨gx, 0, none⟩))) (v := .agg #[(.int .u64 0), (.string s.title), (.string s.uri), (.float .f64 (fb s.e)), (.int .i64 s.li), (.int .i64 s.off), kx, mx, (.slice none 0 0), (.bool s.disc), (.string s.date)]) h9_98 (ld_agg (n := 11) (fun _ => by kernel_rfl) (fun _ => by kernel_rfl) Bx_7 rfl (fun j _ => by simp))) (by rw [F98.size]; decide) fun a99 u99 (h137_99 : a99.tmps.getD 137 undef = (.agg #[(.int .u64 0), (.string s.title), (.string s.uri), (.float .f64 (fb s.e)), (.int .i64 s.li), (.int .i64 s.off), kx, mx, (.slice none 0 0), (.bool s.disc), (.string s.date)])) => ?_
    have F99 := F98.pt u99
    have h1_99 := u99.v 1 h1_98 (by decide)
    have h2_99 := u99.v 2 h2_98 (by decide)
    have h6_99 := u99.v 6 h6_98 (by decide)
    have h88_99 := u99.v 88 h88_98 (by decide)
    have h89_99 := u99.v 89 h89_98 (by decide)
    have h90_99 := u99.v 90 h90_98 (by decide)
    have h136_99 := u99.v 136 h136_98 (by decide)
    clear h1_98 h2_98 h6_98 h88_98 h89_98 h90_98 h9_98 h136_98 u99 F98
    refine wl_cl (args := #[(.agg #[(.int .u64 0), (.string s.title), (.string s.uri), (.float .f64 (fb s.e)), (.int .i64 s.li), (.int .i64 s.off), kx, mx, (.slice none 0 0), (.bool s.disc), (.string s.date)])]) (R := fun v w' => ∃ q kp mp, v = pt q ∧ Blk w' q 96 (segC 0 s kp mp) ∧ KeyP w' w7.heap.size kp s.key ∧ MapP w' w7.heap.size mp s.map ∧ w7.heap.size ≤ q ∧ w7.grownBy w' none) (ex_cl (fun _ _ => by kernel_rfl) (arg1 h137_99)) ((segmentTo_any (num := 0) (s := s) (hkx.gn Kp7.grown) (hmx.gn Kp7.grown)).mono fun _ _ ⟨q, kp, mp, h⟩ => ⟨_, h.1, q, kp, mp, rfl, h.2⟩) (by rw [F99.size]; decide) ?_
    rintro v w8 ⟨gq, kp, mp, rfl, Bq_8, kk_8, mm_8, hlq, G8⟩
    have geS_q : w5.heap.size ≤ gq := by have := Kq_7.size; omega
    have loS : w0.heap.size ≤ w7.heap.size := Kp7.size
    replace kk_8 := kk_8.lo' loS
    replace mm_8 := mm_8.lo' loS
    have Bm_8 := Bm_7.gn G8
    have Bp_8 := Bp_7.gn G8
    have Bg_8 := Bg_7.gn G8
    have Bx_8 := Bx_7.gn G8
    have Kp8 := Kp7.new G8
    have Kq_8 := Kq_7.new G8
    intro a100 u100 h138_100
    have F100 := F99.pt u100
    have h1_100 := u100.v 1 h1_99 (by decide)
    have h2_100 := u100.v 2 h2_99 (by decide)
    have h6_100 := u100.v 6 h6_99 (by decide)
    have h88_100 := u100.v 88 h88_99 (by decide)
    have h89_100 := u100.v 89 h89_99 (by decide)
    have h90_100 := u100.v 90 h90_99 (by decide)
    have h136_100 := u100.v 136 h136_99 (by decide)
    clear h1_99 h2_99 h6_99 h88_99 h89_99 h90_99 h136_99 h137_99 u100 F99
    clear Bm_7 Bp_7 Bg_7 Bx_7 Kp7 Kq_7 G8 loS
    have hprev : ∀ i, j = i + 1 → ∃ v s kp mp, arr[i]? = some (pt v) ∧ Blk w8 v 96 (segC (seq + i) s kp mp) ∧ v ≠ gq := fun i hi => by
      obtain ⟨v, kp', mp', e1, e2, e3, e4, e5, e6⟩ := sgS i segs[i] (by omega) (List.getElem?_eq_getElem (by omega))
      exact ⟨v, _, kp', mp', e1, e3.kp Kq_8 (by simp [e3.ne_ BpS (by decide), e3.ne_ BgS (by decide)]), by have := e3.lt; omega⟩
    have happ : Calls Tryz.prog 15 #[(.pointer (some ⟨gp, 0, none⟩)), (.pointer (some ⟨gq, 0, none⟩))] w8 fun e w' => e = .returned .nilIface ∧ Blk w' gp 70 #[(.float .f64 (fn (max (tmax T (segs.take j)) ((s.e + 7) / 8)))), (.int .u64 seq), (.slice (some ⟨gg, 0, none⟩) cap cap), (.string { data := #[] }), (.bool false), (.bool false), (.int .u64 0), (.int .u64 0), (.float .f64 0), (.bool false), (.bool false), (.int .i64 0), (.int .u64 win), (.int .u64 cap), (.int .u64 0), (.int .u64 (((j + 1) % cap) : Nat)), (.int .u64 ((j + 1) : Nat)), (.slice none 0 0), (.int .i64 0), (.int .i8 0), (.int .u8 3), (.pointer none), (.pointer none)] ∧ Blk w' gg 74 (arr.setIfInBounds j (pt gq)) ∧ Blk w' gq 96 (segC (seq + j) s kp mp) ∧ Kp [gp, gg, gq] w8 w' := app_any (t := j) (T := tmax T (segs.take j)) (e := s.e) (seq := seq) (cap := cap) (arr := arr) Bp_8 Bg_8 Bq_8 (by omega) (by omega) (by omega) hTj hej (by omega) hprev
    refine wl_cl (args := #[(.pointer (some ⟨gp, 0, none⟩)), (.pointer (some ⟨gq, 0, none⟩))]) (R := fun v w' => v = .nilIface ∧ Blk w' gp 70 #[(.float .f64 (fn (max (tmax T (segs.take j)) ((s.e + 7) / 8)))), (.int .u64 seq), (.slice (some ⟨gg, 0, none⟩) cap cap), (.string { data := #[] }), (.bool false), (.bool false), (.int .u64 0), (.int .u64 0), (.float .f64 0), (.bool false), (.bool false), (.int .i64 0), (.int .u64 win), (.int .u64 cap), (.int .u64 0), (.int .u64 (((j + 1) % cap) : Nat)), (.int .u64 ((j + 1) : Nat)), (.slice none 0 0), (.int .i64 0), (.int .i8 0), (.int .u8 3), (.pointer none), (.pointer none)] ∧ Blk w' gg 74 (arr.setIfInBounds j (pt gq)) ∧ Blk w' gq 96 (segC (seq + j) s kp mp) ∧ Kp [gp, gg, gq] w8 w') (ex_cl (fun _ _ => by kernel_rfl) (arg2 h136_100 h138_100)) (happ.mono fun _ _ h => ⟨_, h.1, rfl, h.2⟩) (by rw [F100.size]; decide) ?_
    clear happ
    rintro v w9 ⟨rfl, Bp_9, Bg_9, Bq_9, Ka⟩
    have Kq_9 := Kq_8.trans3 Ka geS_q
    have Kp9 := KpS.trans0 Kq_9 lo_p lo_g
    have kk_9 := kk_8.kp3 Bp_8 Bg_8 Bq_8 Ka
    have mm_9 := mm_8.kp3 Bp_8 Bg_8 Bq_8 Ka
    have nmq : gm ≠ gq := Nat.ne_of_lt (Nat.lt_of_lt_of_le BmS.lt geS_q)
    have Bm_9 := Bm_8.kp Ka (by simp [ne_m_p, ne_m_g, nmq])
    clear hprev
    intro a101 u101 h139_101
    have F101 := F100.pt u101
    have h1_101 := u101.v 1 h1_100 (by decide)
    have h2_101 := u101.v 2 h2_100 (by decide)
    have h6_101 := u101.v 6 h6_100 (by decide)
    have h88_101 := u101.v 88 h88_100 (by decide)
    have h89_101 := u101.v 89 h89_100 (by decide)
    have h90_101 := u101.v 90 h90_100 (by decide)
    clear h1_100 h2_100 h6_100 h88_100 h89_100 h90_100 h136_100 h138_100 u101 F100
    refine wl_p (ex_as (v := .nilIface) h139_101) (by rw [F101.size]; decide) fun a102 u102 (h12_102 : a102.tmps.getD 12 undef = .nilIface) => ?_
    have F102 := F101.pt u102
    have h1_102 := u102.v 1 h1_101 (by decide)
    have h2_102 := u102.v 2 h2_101 (by decide)
    have h6_102 := u102.v 6 h6_101 (by decide)
    have h88_102 := u102.v 88 h88_101 (by decide)
    have h89_102 := u102.v 89 h89_101 (by decide)
    have h90_102 := u102.v 90 h90_101 (by decide)
    clear h1_101 h2_101 h6_101 h88_101 h89_101 h90_101 h139_101 u102 F101
    change Code.wp _ _ _ _ _
    refine wp_seq ?_
    refine rg_list ?_
    refine wl_p (ex_mv (v := .nilIface) h12_102) (by rw [F102.size]; decide) fun a103 u103 (h140_103 : a103.tmps.getD 140 undef = .nilIface) => ?_
    have F103 := F102.pt u103
    have h1_103 := u103.v 1 h1_102 (by decide)
    have h2_103 := u103.v 2 h2_102 (by decide)
    have h6_103 := u103.v 6 h6_102 (by decide)
    have h88_103 := u103.v 88 h88_102 (by decide)
    have h89_103 := u103.v 89 h89_102 (by decide)
    have h90_103 := u103.v 90 h90_102 (by decide)
    clear h1_102 h2_102 h6_102 h88_102 h89_102 h90_102 h12_102 u103 F102
    refine wl_p (ex_bin (vx := .nilIface) (vy := .nilIface) (v := (.bool false)) h140_103 rfl (by kernel_rfl)) (by rw [F103.size]; decide) fun a104 u104 (h141_104 : a104.tmps.getD 141 undef = (.bool false)) => ?_
    have F104 := F103.pt u104
    have h1_104 := u104.v 1 h1_103 (by decide)
    have h2_104 := u104.v 2 h2_103 (by decide)
    have h6_104 := u104.v 6 h6_103 (by decide)
    have h88_104 := u104.v 88 h88_103 (by decide)
    have h89_104 := u104.v 89 h89_103 (by decide)
    have h90_104 := u104.v 90 h90_103 (by decide)
    clear h1_103 h2_103 h6_103 h88_103 h89_103 h90_103 h140_103 u104 F103
    change Code.wp _ _ _ _ _
    refine wp_cond_false h141_104 ?_
    refine wp_skip ?_
    change Code.wp _ _ _ _ _
    refine rg_list ?_
    refine wl_p (ex_bin (vx := (.int .i64 j)) (vy := (.int .i64 1)) (v := (.int .i64 (j + 1))) h90_104 rfl (bo_addi _ _ _ (by omega) (by omega))) (by rw [F104.size]; decide) fun a105 u105 (h142_105 : a105.tmps.getD 142 undef = (.int .i64 (j + 1))) => ?_
    have F105 := F104.pt u105
    have h1_105 := u105.v 1 h1_104 (by decide)
    have h2_105 := u105.v 2 h2_104 (by decide)
    have h6_105 := u105.v 6 h6_104 (by decide)
    have h88_105 := u105.v 88 h88_104 (by decide)
    have h89_105 := u105.v 89 h89_104 (by decide)
    have h90_105 := u105.v 90 h90_104 (by decide)
    clear h1_104 h2_104 h6_104 h88_104 h89_104 h90_104 h141_104 u105 F104
    refine wl_p (ex_mv (v := (.int .i64 (j + 1))) h142_105) (by rw [F105.size]; decide) fun a106 u106 (h90_106 : a106.tmps.getD 90 undef = (.int .i64 (j + 1))) => ?_
    have F106 := F105.pt u106
    have h1_106 := u106.v 1 h1_105 (by decide)
    have h2_106 := u106.v 2 h2_105 (by decide)
    have h6_106 := u106.v 6 h6_105 (by decide)
    have h88_106 := u106.v 88 h88_105 (by decide)
    have h89_106 := u106.v 89 h89_105 (by decide)
    clear h1_105 h2_105 h6_105 h88_105 h89_105 h90_105 h142_105 u106 F105
    refine And.intro ?_ ?_
    · refine ⟨j + 1, arr.setIfInBounds j (pt gq), hj, F106, h1_106, h2_106, h6_106, h88_106, h89_106, h90_106, Kp9, Bm_9, ?_, Bg_9, by simp [hz], ?_⟩
      · rw [tmax_snoc T segs j hj, ← hs]; exact Bp_9
      · exact (sgS.kp2 BpS BgS Kq_9).snoc (by rw [hz]; exact hjc) hsj Kq_9.size (Nat.le_trans KpS.size geS_q) Bq_9 kk_9 mm_9 kk_9.lt
    · rw [h90_106, h90S]; exact hd
  case inr =>
    obtain rfl : j = segs.length := by omega
    rw [List.take_length] at Bp_5
    have hsz : w5.heap.size ≤ w5.heap.size := Nat.le_refl _
    have Kl_5 := Kp.refl [gp] w5
    refine wp_seq ?_
    refine rg_list ?_
    refine wl_p (ex_bin (vx := (.int .i64 segs.length)) (vy := (.int .i64 segs.length)) (v := (.bool false)) h90_84 h89_84 ((bo_lssi _ _ _).trans (by rw [decide_eq_false (by omega)]))) (by rw [F84.size]; decide) fun a85 u85 (h91_85 : a85.tmps.getD 91 undef = (.bool false)) => ?_
    have F85 := F84.pt u85
    have h1_85 := u85.v 1 h1_84 (by decide)
    have h2_85 := u85.v 2 h2_84 (by decide)
    have h6_85 := u85.v 6 h6_84 (by decide)
    have h88_85 := u85.v 88 h88_84 (by decide)
    have h90_85 := u85.v 90 h90_84 (by decide)
    clear h1_84 h2_84 h6_84 h88_84 h89_84 h90_84 u85 F84
    change Code.wp _ _ _ _ _
    refine wp_seq ?_
    refine wp_cond_false h91_85 ?_
    refine wp_exit ?_
    try simp only [Exit.then]
    refine inBlock_exit ?_
    change Code.wp _ _ _ _ _
    refine wp_seq ?_
    obtain ⟨w6, hw6⟩ : ∃ w, w = w5.drew := ⟨_, rfl⟩
    have G6 : w5.grownBy w6 none := hw6 ▸ grown_drew _
    have Bm_6 := Bm_5.gn G6
    have Bp_6 := Bp_5.gn G6
    have Bg_6 := Bg_5.gn G6
    have Kp6 := Kp5.new G6
    have sg_6 := sg_5.gn G6
    have Kl_6 := Kl_5.new G6
    refine rg_ord (S := fun w' => Blk w' gm 36 #[(.float .f64 (fn T)), (.int .u64 seq), sv, (.string { data := #[] }), (.bool ifr), (.bool clo), (.int .i64 ty), (.int .u64 dsq), (.float .f64 (fb st)), (.bool pre), (.int .i64 ver), kv, mv, (.int .i64 win)]) [0, 1, 2, 3, 4, 5, 6, 7, 8, 9, 10, 11, 12, 13, 14, 15, 16, 17] [18, 19, 20, 21, 22, 23, 24, 25, 26, 27, 28, 29, 30] ⟨rfl, by decide⟩ hmix (by kernel_rfl) (by rw [show w5.drew = w6 from hw6.symm]; exact Bm_6) ?_
    rw [show w5.drew = w6 from hw6.symm]
    clear Bm_5 Bp_5 Bg_5 Kp5 sg_5 Kl_5 hw6 G6
    refine mh_p (fun w hw => ex_mv (v := (.pointer (some ⟨gp, 0, none⟩))) h6_85) (by rw [F85.size]; decide) fun a86 u86 (h143_86 : a86.tmps.getD 143 undef = (.pointer (some ⟨gp, 0, none⟩))) => ?_
    have F86 := F85.pt u86
    have h1_86 := u86.v 1 h1_85 (by decide)
    have h2_86 := u86.v 2 h2_85 (by decide)
    have h6_86 := u86.v 6 h6_85 (by decide)
    clear h1_85 h2_85 h6_85 h88_85 h90_85 h91_85 u86 F85
    refine mh_p (fun w hw => ex_mv (v := (.pointer (some ⟨gp, 0, none⟩))) h6_86) (by rw [F86.size]; decide) fun a87 u87 (h144_87 : a87.tmps.getD 144 undef = (.pointer (some ⟨gp, 0, none⟩))) => ?_
    have F87 := F86.pt u87
    have h1_87 := u87.v 1 h1_86 (by decide)
    have h2_87 := u87.v 2 h2_86 (by decide)
    have h6_87 := u87.v 6 h6_86 (by decide)
    have h143_87 := u87.v 143 h143_86 (by decide)
    clear h1_86 h2_86 h6_86 h143_86 u87 F86
    refine mh_p (fun w hw => ex_mv (v := (.pointer (some ⟨gp, 0, none⟩))) h6_87) (by rw [F87.size]; decide) fun a88 u88 (h145_88 : a88.tmps.getD 145 undef = (.pointer (some ⟨gp, 0, none⟩))) => ?_
    have F88 := F87.pt u88
    have h1_88 := u88.v 1 h1_87 (by decide)
    have h2_88 := u88.v 2 h2_87 (by decide)
    have h6_88 := u88.v 6 h6_87 (by decide)
    have h143_88 := u88.v 143 h143_87 (by decide)
    have h144_88 := u88.v 144 h144_87 (by decide)
    clear h1_87 h2_87 h6_87 h143_87 h144_87 u88 F87
    refine mh_p (fun w hw => ex_mv (v := (.pointer (some ⟨gp, 0, none⟩))) h6_88) (by rw [F88.size]; decide) fun a89 u89 (h146_89 : a89.tmps.getD 146 undef = (.pointer (some ⟨gp, 0, none⟩))) => ?_
    have F89 := F88.pt u89
    have h1_89 := u89.v 1 h1_88 (by decide)
    have h2_89 := u89.v 2 h2_88 (by decide)
    have h6_89 := u89.v 6 h6_88 (by decide)
    have h143_89 := u89.v 143 h143_88 (by decide)
    have h144_89 := u89.v 144 h144_88 (by decide)
    have h145_89 := u89.v 145 h145_88 (by decide)
    clear h1_88 h2_88 h6_88 h143_88 h144_88 h145_88 u89 F88
    refine mh_p (fun w hw => ex_mv (v := (.pointer (some ⟨gp, 0, none⟩))) h6_89) (by rw [F89.size]; decide) fun a90 u90 (h147_90 : a90.tmps.getD 147 undef = (.pointer (some ⟨gp, 0, none⟩))) => ?_
    have F90 := F89.pt u90
    have h1_90 := u90.v 1 h1_89 (by decide)
    have h2_90 := u90.v 2 h2_89 (by decide)
    have h6_90 := u90.v 6 h6_89 (by decide)
    have h143_90 := u90.v 143 h143_89 (by decide)
    have h144_90 := u90.v 144 h144_89 (by decide)
    have h145_90 := u90.v 145 h145_89 (by decide)
    have h146_90 := u90.v 146 h146_89 (by decide)
    clear h1_89 h2_89 h6_89 h143_89 h144_89 h145_89 h146_89 u90 F89
    refine mh_p (fun w hw => ex_fa (T := 36) (f := 3) (k := 3) (b := gm) (fun _ _ => by kernel_rfl) h2_90) (by rw [F90.size]; decide) fun a91 u91 (h148_91 : a91.tmps.getD 148 undef = (.pointer (some ⟨gm, 3, none⟩))) => ?_
    have F91 := F90.pt u91
    have h1_91 := u91.v 1 h1_90 (by decide)
    have h2_91 := u91.v 2 h2_90 (by decide)
    have h6_91 := u91.v 6 h6_90 (by decide)
    have h143_91 := u91.v 143 h143_90 (by decide)
    have h144_91 := u91.v 144 h144_90 (by decide)
    have h145_91 := u91.v 145 h145_90 (by decide)
    have h146_91 := u91.v 146 h146_90 (by decide)
    have h147_91 := u91.v 147 h147_90 (by decide)
    clear h1_90 h2_90 h6_90 h143_90 h144_90 h145_90 h146_90 h147_90 u91 F90
    refine mh_p (fun w hw => ex_ld (v := (.string { data := #[] })) (ad := ⟨gm, 3, none⟩) (fun _ => by kernel_rfl) h148_91 (hw.cell 3)) (by rw [F91.size]; decide) fun a92 u92 (h149_92 : a92.tmps.getD 149 undef = (.string { data := #[] })) => ?_
    have F92 := F91.pt u92
    have h1_92 := u92.v 1 h1_91 (by decide)
    have h2_92 := u92.v 2 h2_91 (by decide)
    have h6_92 := u92.v 6 h6_91 (by decide)
    have h143_92 := u92.v 143 h143_91 (by decide)
    have h144_92 := u92.v 144 h144_91 (by decide)
    have h145_92 := u92.v 145 h145_91 (by decide)
    have h146_92 := u92.v 146 h146_91 (by decide)
    have h147_92 := u92.v 147 h147_91 (by decide)
    have h148_92 := u92.v 148 h148_91 (by decide)
    clear h1_91 h2_91 h6_91 h143_91 h144_91 h145_91 h146_91 h147_91 h148_91 u92 F91
    refine mh_p (fun w hw => ex_fa (T := 36) (f := 4) (k := 4) (b := gm) (fun _ _ => by kernel_rfl) h2_92) (by rw [F92.size]; decide) fun a93 u93 (h150_93 : a93.tmps.getD 150 undef = (.pointer (some ⟨gm, 4, none⟩))) => ?_
    have F93 := F92.pt u93
    have h1_93 := u93.v 1 h1_92 (by decide)
    have h2_93 := u93.v 2 h2_92 (by decide)
    have h6_93 := u93.v 6 h6_92 (by decide)
    have h143_93 := u93.v 143 h143_92 (by decide)
    have h144_93 := u93.v 144 h144_92 (by decide)
    have h145_93 := u93.v 145 h145_92 (by decide)
    have h146_93 := u93.v 146 h146_92 (by decide)
    have h147_93 := u93.v 147 h147_92 (by decide)
    have h148_93 := u93.v 148 h148_92 (by decide)
    have h149_93 := u93.v 149 h149_92 (by decide)
    clear h1_92 h2_92 h6_92 h143_92 h144_92 h145_92 h146_92 h147_92 h148_92 h149_92 u93 F92
    refine mh_p (fun w hw => ex_ld (v := (.bool ifr)) (ad := ⟨gm, 4, none⟩) (fun _ => by kernel_rfl) h150_93 (hw.cell 4)) (by rw [F93.size]; decide) fun a94 u94 (h151_94 : a94.tmps.getD 151 undef = (.bool ifr)) => ?_
    have F94 := F93.pt u94
    have h1_94 := u94.v 1 h1_93 (by decide)
    have h2_94 := u94.v 2 h2_93 (by decide)
    have h6_94 := u94.v 6 h6_93 (by decide)
    have h143_94 := u94.v 143 h143_93 (by decide)
    have h144_94 := u94.v 144 h144_93 (by decide)
    have h145_94 := u94.v 145 h145_93 (by decide)
    have h146_94 := u94.v 146 h146_93 (by decide)
    have h147_94 := u94.v 147 h147_93 (by decide)
    have h148_94 := u94.v 148 h148_93 (by decide)
    have h149_94 := u94.v 149 h149_93 (by decide)
    have h150_94 := u94.v 150 h150_93 (by decide)
    clear h1_93 h2_93 h6_93 h143_93 h144_93 h145_93 h146_93 h147_93 h148_93 h149_93 h150_93 u94 F93
    refine mh_p (fun w hw => ex_fa (T := 36) (f := 5) (k := 5) (b := gm) (fun _ _ => by kernel_rfl) h2_94) (by rw [F94.size]; decide) fun a95 u95 (h152_95 : a95.tmps.getD 152 undef = (.pointer (some ⟨gm, 5, none⟩))) => ?_
    have F95 := F94.pt u95
    have h1_95 := u95.v 1 h1_94 (by decide)
    have h2_95 := u95.v 2 h2_94 (by decide)
    have h6_95 := u95.v 6 h6_94 (by decide)
    have h143_95 := u95.v 143 h143_94 (by decide)
    have h144_95 := u95.v 144 h144_94 (by decide)
    have h145_95 := u95.v 145 h145_94 (by decide)
    have h146_95 := u95.v 146 h146_94 (by decide)
    have h147_95 := u95.v 147 h147_94 (by decide)
    have h148_95 := u95.v 148 h148_94 (by decide)
    have h149_95 := u95.v 149 h149_94 (by decide)
    have h150_95 := u95.v 150 h150_94 (by decide)
    have h151_95 := u95.v 151 h151_94 (by decide)
    clear h1_94 h2_94 h6_94 h143_94 h144_94 h145_94 h146_94 h147_94 h148_94 h149_94 h150_94 h151_94 u95 F94
    refine mh_p (fun w hw => ex_ld (v := (.bool clo)) (ad := ⟨gm, 5, none⟩) (fun _ => by kernel_rfl) h152_95 (hw.cell 5)) (by rw [F95.size]; decide) fun a96 u96 (h153_96 : a96.tmps.getD 153 undef = (.bool clo)) => ?_
    have F96 := F95.pt u96
    have h1_96 := u96.v 1 h1_95 (by decide)
    have h2_96 := u96.v 2 h2_95 (by decide)
    have h6_96 := u96.v 6 h6_95 (by decide)
    have h143_96 := u96.v 143 h143_95 (by decide)
    have h144_96 := u96.v 144 h144_95 (by decide)
    have h145_96 := u96.v 145 h145_95 (by decide)
    have h146_96 := u96.v 146 h146_95 (by decide)
    have h147_96 := u96.v 147 h147_95 (by decide)
    have h148_96 := u96.v 148 h148_95 (by decide)
    have h149_96 := u96.v 149 h149_95 (by decide)
    have h150_96 := u96.v 150 h150_95 (by decide)
    have h151_96 := u96.v 151 h151_95 (by decide)
    have h152_96 := u96.v 152 h152_95 (by decide)
    clear h1_95 h2_95 h6_95 h143_95 h144_95 h145_95 h146_95 h147_95 h148_95 h149_95 h150_95 h151_95 h152_95 u96 F95
    refine mh_p (fun w hw => ex_fa (T := 36) (f := 6) (k := 6) (b := gm) (fun _ _ => by kernel_rfl) h2_96) (by rw [F96.size]; decide) fun a97 u97 (h154_97 : a97.tmps.getD 154 undef = (.pointer (some ⟨gm, 6, none⟩))) => ?_
    have F97 := F96.pt u97
    have h1_97 := u97.v 1 h1_96 (by decide)
    have h2_97 := u97.v 2 h2_96 (by decide)
    have h6_97 := u97.v 6 h6_96 (by decide)
    have h143_97 := u97.v 143 h143_96 (by decide)
    have h144_97 := u97.v 144 h144_96 (by decide)
    have h145_97 := u97.v 145 h145_96 (by decide)
    have h146_97 := u97.v 146 h146_96 (by decide)
    have h147_97 := u97.v 147 h147_96 (by decide)
    have h148_97 := u97.v 148 h148_96 (by decide)
    have h149_97 := u97.v 149 h149_96 (by decide)
    have h150_97 := u97.v 150 h150_96 (by decide)
    have h151_97 := u97.v 151 h151_96 (by decide)
    have h152_97 := u97.v 152 h152_96 (by decide)
    have h153_97 := u97.v 153 h153_96 (by decide)
    clear h1_96 h2_96 h6_96 h143_96 h144_96 h145_96 h146_96 h147_96 h148_96 h149_96 h150_96 h151_96 h152_96 h153_96 u97 F96
    refine mh_p (fun w hw => ex_ld (v := (.int .i64 ty)) (ad := ⟨gm, 6, none⟩) (fun _ => by kernel_rfl) h154_97 (hw.cell 6)) (by rw [F97.size]; decide) fun a98 u98 (h155_98 : a98.tmps.getD 155 undef = (.int .i64 ty)) => ?_
    have F98 := F97.pt u98
    have h1_98 := u98.v 1 h1_97 (by decide)
    have h2_98 := u98.v 2 h2_97 (by decide)
    have h6_98 := u98.v 6 h6_97 (by decide)
    have h143_98 := u98.v 143 h143_97 (by decide)
    have h144_98 := u98.v 144 h144_97 (by decide)
    have h145_98 := u98.v 145 h145_97 (by decide)
    have h146_98 := u98.v 146 h146_97 (by decide)
    have h147_98 := u98.v 147 h147_97 (by decide)
    have h148_98 := u98.v 148 h148_97 (by decide)
    have h149_98 := u98.v 149 h149_97 (by decide)
    have h150_98 := u98.v 150 h150_97 (by decide)
    have h151_98 := u98.v 151 h151_97 (by decide)
    have h152_98 := u98.v 152 h152_97 (by decide)
    have h153_98 := u98.v 153 h153_97 (by decide)
    have h154_98 := u98.v 154 h154_97 (by decide)
    clear h1_97 h2_97 h6_97 h143_97 h144_97 h145_97 h146_97 h147_97 h148_97 h149_97 h150_97 h151_97 h152_97 h153_97 h154_97 u98 F97
    refine mh_p (fun w hw => ex_conv (vx := (.int .i64 ty)) (v := (.int .u64 ty)) h155_98 (cv_ity _ (by omega) _)) (by rw [F98.size]; decide) fun a99 u99 (h156_99 : a99.tmps.getD 156 undef = (.int .u64 ty)) => ?_
    have F99 := F98.pt u99
    have h1_99 := u99.v 1 h1_98 (by decide)
    have h2_99 := u99.v 2 h2_98 (by decide)
    have h6_99 := u99.v 6 h6_98 (by decide)
    have h143_99 := u99.v 143 h143_98 (by decide)
    have h144_99 := u99.v 144 h144_98 (by decide)
    have h145_99 := u99.v 145 h145_98 (by decide)
    have h146_99 := u99.v 146 h146_98 (by decide)
    have h147_99 := u99.v 147 h147_98 (by decide)
    have h148_99 := u99.v 148 h148_98 (by decide)
    have h149_99 := u99.v 149 h149_98 (by decide)
    have h150_99 := u99.v 150 h150_98 (by decide)
    have h151_99 := u99.v 151 h151_98 (by decide)
    have h152_99 := u99.v 152 h152_98 (by decide)
    have h153_99 := u99.v 153 h153_98 (by decide)
    have h154_99 := u99.v 154 h154_98 (by decide)
    have h155_99 := u99.v 155 h155_98 (by decide)
    clear h1_98 h2_98 h6_98 h143_98 h144_98 h145_98 h146_98 h147_98 h148_98 h149_98 h150_98 h151_98 h152_98 h153_98 h154_98 h155_98 u99 F98
    refine mh_p (fun w hw => ex_fa (T := 36) (f := 7) (k := 7) (b := gm) (fun _ _ => by kernel_rfl) h2_99) (by rw [F99.size]; decide) fun a100 u100 (h157_100 : a100.tmps.getD 157 undef = (.pointer (some ⟨gm, 7, none⟩))) => ?_
    have F100 := F99.pt u100
    have h1_100 := u100.v 1 h1_99 (by decide)
    have h2_100 := u100.v 2 h2_99 (by decide)
    have h6_100 := u100.v 6 h6_99 (by decide)
    have h143_100 := u100.v 143 h143_99 (by decide)
    have h144_100 := u100.v 144 h144_99 (by decide)
    have h145_100 := u100.v 145 h145_99 (by decide)
    have h146_100 := u100.v 146 h146_99 (by decide)
    have h147_100 := u100.v 147 h147_99 (by decide)
    have h148_100 := u100.v 148 h148_99 (by decide)
    have h149_100 := u100.v 149 h149_99 (by decide)
    have h150_100 := u100.v 150 h150_99 (by decide)
    have h151_100 := u100.v 151 h151_99 (by decide)
    have h152_100 := u100.v 152 h152_99 (by decide)
    have h153_100 := u100.v 153 h153_99 (by decide)
    have h154_100 := u100.v 154 h154_99 (by decide)
    have h155_100 := u100.v 155 h155_99 (by decide)
    have h156_100 := u100.v 156 h156_99 (by decide)
    clear h1_99 h2_99 h6_99 h143_99 h144_99 h145_99 h146_99 h147_99 h148_99 h149_99 h150_99 h151_99 h152_99 h153_99 h154_99 h155_99 h156_99 u100 F99
    refine mh_p (fun w hw => ex_ld (v := (.int .u64 dsq)) (ad := ⟨gm, 7, none⟩) (fun _ => by kernel_rfl) h157_100 (hw.cell 7)) (by rw [F100.size]; decide) fun a101 u101 (h158_101 : a101.tmps.getD 158 undef = (.int .u64 dsq)) => ?_
    have F101 := F100.pt u101
    have h1_101 := u101.v 1 h1_100 (by decide)
    have h2_101 := u101.v 2 h2_100 (by decide)
    have h6_101 := u101.v 6 h6_100 (by decide)
    have h143_101 := u101.v 143 h143_100 (by decide)
    have h144_101 := u101.v 144 h144_100 (by decide)
    have h145_101 := u101.v 145 h145_100 (by decide)
    have h146_101 := u101.v 146 h146_100 (by decide)
    have h147_101 := u101.v 147 h147_100 (by decide)
    have h148_101 := u101.v 148 h148_100 (by decide)
    have h149_101 := u101.v 149 h149_100 (by decide)
    have h150_101 := u101.v 150 h150_100 (by decide)
    have h151_101 := u101.v 151 h151_100 (by decide)
    have h152_101 := u101.v 152 h152_100 (by decide)
    have h153_101 := u101.v 153 h153_100 (by decide)
    have h154_101 := u101.v 154 h154_100 (by decide)
    have h155_101 := u101.v 155 h155_100 (by decide)
    have h156_101 := u101.v 156 h156_100 (by decide)
    have h157_101 := u101.v 157 h157_100 (by decide)
    clear h1_100 h2_100 h6_100 h143_100 h144_100 h145_100 h146_100 h147_100 h148_100 h149_100 h150_100 h151_100 h152_100 h153_100 h154_100 h155_100 h156_100 h157_100 u101 F100
    refine mh_p (fun w hw => ex_nil (ad := ⟨gp, 0, none⟩) h143_101) (by rw [F101.size]; decide) fun a102 u102 (h159_102 : a102.tmps.getD 159 undef = (.pointer (some ⟨gp, 0, none⟩))) => ?_
    have F102 := F101.pt u102
    have h1_102 := u102.v 1 h1_101 (by decide)
    have h2_102 := u102.v 2 h2_101 (by decide)
    have h6_102 := u102.v 6 h6_101 (by decide)
    have h143_102 := u102.v 143 h143_101 (by decide)
    have h144_102 := u102.v 144 h144_101 (by decide)
    have h145_102 := u102.v 145 h145_101 (by decide)
    have h146_102 := u102.v 146 h146_101 (by decide)
    have h147_102 := u102.v 147 h147_101 (by decide)
    have h148_102 := u102.v 148 h148_101 (by decide)
    have h149_102 := u102.v 149 h149_101 (by decide)
    have h150_102 := u102.v 150 h150_101 (by decide)
    have h151_102 := u102.v 151 h151_101 (by decide)
    have h152_102 := u102.v 152 h152_101 (by decide)
    have h153_102 := u102.v 153 h153_101 (by decide)
    have h154_102 := u102.v 154 h154_101 (by decide)
    have h155_102 := u102.v 155 h155_101 (by decide)
    have h156_102 := u102.v 156 h156_101 (by decide)
    have h157_102 := u102.v 157 h157_101 (by decide)
    have h158_102 := u102.v 158 h158_101 (by decide)
    clear h1_101 h2_101 h6_101 h143_101 h144_101 h145_101 h146_101 h147_101 h148_101 h149_101 h150_101 h151_101 h152_101 h153_101 h154_101 h155_101 h156_101 h157_101 h158_101 u102 F101
    refine mh_p (fun w hw => ex_fa (T := 70) (f := 3) (k := 3) (b := gp) (fun _ _ => by kernel_rfl) h159_102) (by rw [F102.size]; decide) fun a103 u103 (h160_103 : a103.tmps.getD 160 undef = (.pointer (some ⟨gp, 3, none⟩))) => ?_
    have F103 := F102.pt u103
    have h1_103 := u103.v 1 h1_102 (by decide)
    have h2_103 := u103.v 2 h2_102 (by decide)
    have h6_103 := u103.v 6 h6_102 (by decide)
    have h143_103 := u103.v 143 h143_102 (by decide)
    have h144_103 := u103.v 144 h144_102 (by decide)
    have h145_103 := u103.v 145 h145_102 (by decide)
    have h146_103 := u103.v 146 h146_102 (by decide)
    have h147_103 := u103.v 147 h147_102 (by decide)
    have h148_103 := u103.v 148 h148_102 (by decide)
    have h149_103 := u103.v 149 h149_102 (by decide)
    have h150_103 := u103.v 150 h150_102 (by decide)
    have h151_103 := u103.v 151 h151_102 (by decide)
    have h152_103 := u103.v 152 h152_102 (by decide)
    have h153_103 := u103.v 153 h153_102 (by decide)
    have h154_103 := u103.v 154 h154_102 (by decide)
    have h155_103 := u103.v 155 h155_102 (by decide)
    have h156_103 := u103.v 156 h156_102 (by decide)
    have h157_103 := u103.v 157 h157_102 (by decide)
    have h158_103 := u103.v 158 h158_102 (by decide)
    have h159_103 := u103.v 159 h159_102 (by decide)
    clear h1_102 h2_102 h6_102 h143_102 h144_102 h145_102 h146_102 h147_102 h148_102 h149_102 h150_102 h151_102 h152_102 h153_102 h154_102 h155_102 h156_102 h157_102 h158_102 h159_102 u103 F102
    obtain ⟨w7, hr7, Bp_7, G7⟩ := st_run (T := 9) (o := 3) (v := (.string { data := #[] })) (cs' := #[(.float .f64 (fn (tmax T segs))), (.int .u64 seq), (.slice (some ⟨gg, 0, none⟩) cap cap), (.string { data := #[] }), (.bool false), (.bool false), (.int .u64 0), (.int .u64 0), (.float .f64 0), (.bool false), (.bool false), (.int .i64 0), (.int .u64 win), (.int .u64 cap), (.int .u64 0), (.int .u64 ((segs.length % cap) : Nat)), (.int .u64 (segs.length : Nat)), (.slice none 0 0), (.int .i64 0), (.int .i8 0), (.int .u8 3), (.pointer none), (.pointer none)]) (fun _ => by kernel_rfl) Bp_6 rfl (by simp) rfl
    have Bm_7 := Bm_6.gk G7 ne_m_p
    have Bg_7 := Bg_6.gk G7 hgp
    have Kp7 := Kp6.set G7 (Or.inr lo_p)
    have sg_7 := sg_6.gs Bp_6 G7
    have Kl_7 := Kl_6.set G7 (Or.inl (by simp))
    refine mt_n (ex_st h160_103 h149_103 hr7) (Bm_7) ?_
    clear Bm_6 Bg_6 Kp6 sg_6 Kl_6 Bp_6 hr7 G7
    refine mt_p (ex_nil (ad := ⟨gp, 0, none⟩) h144_103) (Bm_7) (by rw [F103.size]; decide) fun a104 u104 (h161_104 : a104.tmps.getD 161 undef = (.pointer (some ⟨gp, 0, none⟩))) => ?_
    have F104 := F103.pt u104
    have h1_104 := u104.v 1 h1_103 (by decide)
    have h2_104 := u104.v 2 h2_103 (by decide)
    have h6_104 := u104.v 6 h6_103 (by decide)
    have h143_104 := u104.v 143 h143_103 (by decide)
    have h144_104 := u104.v 144 h144_103 (by decide)
    have h145_104 := u104.v 145 h145_103 (by decide)
    have h146_104 := u104.v 146 h146_103 (by decide)
    have h147_104 := u104.v 147 h147_103 (by decide)
    have h148_104 := u104.v 148 h148_103 (by decide)
    have h149_104 := u104.v 149 h149_103 (by decide)
    have h150_104 := u104.v 150 h150_103 (by decide)
    have h151_104 := u104.v 151 h151_103 (by decide)
    have h152_104 := u104.v 152 h152_103 (by decide)
    have h153_104 := u104.v 153 h153_103 (by decide)
    have h154_104 := u104.v 154 h154_103 (by decide)
    have h155_104 := u104.v 155 h155_103 (by decide)
    have h156_104 := u104.v 156 h156_103 (by decide)
    have h157_104 := u104.v 157 h157_103 (by decide)
    have h158_104 := u104.v 158 h158_103 (by decide)
    have h159_104 := u104.v 159 h159_103 (by decide)
    have h160_104 := u104.v 160 h160_103 (by decide)
    clear h1_103 h2_103 h6_103 h143_103 h144_103 h145_103 h146_103 h147_103 h148_103 h149_103 h150_103 h151_103 h152_103 h153_103 h154_103 h155_103 h156_103 h157_103 h158_103 h159_103 h160_103 u104 F103
    refine mt_p (ex_fa (T := 70) (f := 4) (k := 4) (b := gp) (fun _ _ => by kernel_rfl) h161_104) (Bm_7) (by rw [F104.size]; decide) fun a105 u105 (h162_105 : a105.tmps.getD 162 undef = (.pointer (some ⟨gp, 4, none⟩))) => ?_
    have F105 := F104.pt u105
    have h1_105 := u105.v 1 h1_104 (by decide)
    have h2_105 := u105.v 2 h2_104 (by decide)
    have h6_105 := u105.v 6 h6_104 (by decide)
    have h143_105 := u105.v 143 h143_104 (by decide)
    have h144_105 := u105.v 144 h144_104 (by decide)
    have h145_105 := u105.v 145 h145_104 (by decide)
    have h146_105 := u105.v 146 h146_104 (by decide)
    have h147_105 := u105.v 147 h147_104 (by decide)
    have h148_105 := u105.v 148 h148_104 (by decide)
    have h149_105 := u105.v 149 h149_104 (by decide)
    have h150_105 := u105.v 150 h150_104 (by decide)
    have h151_105 := u105.v 151 h151_104 (by decide)
    have h152_105 := u105.v 152 h152_104 (by decide)
    have h153_105 := u105.v 153 h153_104 (by decide)
    have h154_105 := u105.v 154 h154_104 (by decide)
    have h155_105 := u105.v 155 h155_104 (by decide)
    have h156_105 := u105.v 156 h156_104 (by decide)
    have h157_105 := u105.v 157 h157_104 (by decide)
    have h158_105 := u105.v 158 h158_104 (by decide)
    have h159_105 := u105.v 159 h159_104 (by decide)
    have h160_105 := u105.v 160 h160_104 (by decide)
    have h161_105 := u105.v 161 h161_104 (by decide)
    clear h1_104 h2_104 h6_104 h143_104 h144_104 h145_104 h146_104 h147_104 h148_104 h149_104 h150_104 h151_104 h152_104 h153_104 h154_104 h155_104 h156_104 h157_104 h158_104 h159_104 h160_104 h161_104 u105 F104
    obtain ⟨w8, hr8, Bp_8, G8⟩ := st_run (T := 4) (o := 4) (v := (.bool ifr)) (cs' := #[(.float .f64 (fn (tmax T segs))), (.int .u64 seq), (.slice (some ⟨gg, 0, none⟩) cap cap), (.string { data := #[] }), (.bool ifr), (.bool false), (.int .u64 0), (.int .u64 0), (.float .f64 0), (.bool false), (.bool false), (.int .i64 0), (.int .u64 win), (.int .u64 cap), (.int .u64 0), (.int .u64 ((segs.length % cap) : Nat)), (.int .u64 (segs.length : Nat)), (.slice none 0 0), (.int .i64 0), (.int .i8 0), (.int .u8 3), (.pointer none), (.pointer none)]) (fun _ => by kernel_rfl) Bp_7 rfl (by simp) rfl
    have Bm_8 := Bm_7.gk G8 ne_m_p
    have Bg_8 := Bg_7.gk G8 hgp
    have Kp8 := Kp7.set G8 (Or.inr lo_p)
    have sg_8 := sg_7.gs Bp_7 G8
    have Kl_8 := Kl_7.set G8 (Or.inl (by simp))
    refine mt_n (ex_st h162_105 h151_105 hr8) (Bm_8) ?_
    clear Bm_7 Bg_7 Kp7 sg_7 Kl_7 Bp_7 hr8 G8
    refine mt_p (ex_nil (ad := ⟨gp, 0, none⟩) h145_105) (Bm_8) (by rw [F105.size]; decide) fun a106 u106 (h163_106 : a106.tmps.getD 163 undef = (.pointer (some ⟨gp, 0, none⟩))) => ?_
    have F106 := F105.pt u106
    have h1_106 := u106.v 1 h1_105 (by decide)
    have h2_106 := u106.v 2 h2_105 (by decide)
    have h6_106 := u106.v 6 h6_105 (by decide)
    have h143_106 := u106.v 143 h143_105 (by decide)
    have h144_106 := u106.v 144 h144_105 (by decide)
    have h145_106 := u106.v 145 h145_105 (by decide)
    have h146_106 := u106.v 146 h146_105 (by decide)
    have h147_106 := u106.v 147 h147_105 (by decide)
    have h148_106 := u106.v 148 h148_105 (by decide)
    have h149_106 := u106.v 149 h149_105 (by decide)
    have h150_106 := u106.v 150 h150_105 (by decide)
    have h151_106 := u106.v 151 h151_105 (by decide)
    have h152_106 := u106.v 152 h152_105 (by decide)
    have h153_106 := u106.v 153 h153_105 (by decide)
    have h154_106 := u106.v 154 h154_105 (by decide)
    have h155_106 := u106.v 155 h155_105 (by decide)
    have h156_106 := u106.v 156 h156_105 (by decide)
    have h157_106 := u106.v 157 h157_105 (by decide)
    have h158_106 := u106.v 158 h158_105 (by decide)
    have h159_106 := u106.v 159 h159_105 (by decide)
    have h160_106 := u106.v 160 h160_105 (by decide)
    have h161_106 := u106.v 161 h161_105 (by decide)
    have h162_106 := u106.v 162 h162_105 (by decide)
    clear h1_105 h2_105 h6_105 h143_105 h144_105 h145_105 h146_105 h147_105 h148_105 h149_105 h150_105 h151_105 h152_105 h153_105 h154_105 h155_105 h156_105 h157_105 h158_105 h159_105 h160_105 h161_105 h162_105 u106 F105
    refine mt_p (ex_fa (T := 70) (f := 5) (k := 5) (b := gp) (fun _ _ => by kernel_rfl) h163_106) (Bm_8) (by rw [F106.size]; decide) fun a107 u107 (h164_107 : a107.tmps.getD 164 undef = (.pointer (some ⟨gp, 5, none⟩))) => ?_
    have F107 := F106.pt u107
    have h1_107 := u107.v 1 h1_106 (by decide)
    have h2_107 := u107.v 2 h2_106 (by decide)
    have h6_107 := u107.v 6 h6_106 (by decide)
    have h143_107 := u107.v 143 h143_106 (by decide)
    have h144_107 := u107.v 144 h144_106 (by decide)
    have h145_107 := u107.v 145 h145_106 (by decide)
    have h146_107 := u107.v 146 h146_106 (by decide)
    have h147_107 := u107.v 147 h147_106 (by decide)
    have h148_107 := u107.v 148 h148_106 (by decide)
    have h149_107 := u107.v 149 h149_106 (by decide)
    have h150_107 := u107.v 150 h150_106 (by decide)
    have h151_107 := u107.v 151 h151_106 (by decide)
    have h152_107 := u107.v 152 h152_106 (by decide)
    have h153_107 := u107.v 153 h153_106 (by decide)
    have h154_107 := u107.v 154 h154_106 (by decide)
    have h155_107 := u107.v 155 h155_106 (by decide)
    have h156_107 := u107.v 156 h156_106 (by decide)
    have h157_107 := u107.v 157 h157_106 (by decide)
    have h158_107 := u107.v 158 h158_106 (by decide)
    have h159_107 := u107.v 159 h159_106 (by decide)
    have h160_107 := u107.v 160 h160_106 (by decide)
    have h161_107 := u107.v 161 h161_106 (by decide)
    have h162_107 := u107.v 162 h162_106 (by decide)
    have h163_107 := u107.v 163 h163_106 (by decide)
    clear h1_106 h2_106 h6_106 h143_106 h144_106 h145_106 h146_106 h147_106 h148_106 h149_106 h150_106 h151_106 h152_106 h153_106 h154_106 h155_106 h156_106 h157_106 h158_106 h159_106 h160_106 h161_106 h162_106 h163_106 u107 F106
    obtain ⟨w9, hr9, Bp_9, G9⟩ := st_run (T := 4) (o := 5) (v := (.bool clo)) (cs' := #[(.float .f64 (fn (tmax T segs))), (.int .u64 seq), (.slice (some ⟨gg, 0, none⟩) cap cap), (.string { data := #[] }), (.bool ifr), (.bool clo), (.int .u64 0), (.int .u64 0), (.float .f64 0), (.bool false), (.bool false), (.int .i64 0), (.int .u64 win), (.int .u64 cap), (.int .u64 0), (.int .u64 ((segs.length % cap) : Nat)), (.int .u64 (segs.length : Nat)), (.slice none 0 0), (.int .i64 0), (.int .i8 0), (.int .u8 3), (.pointer none), (.pointer none)]) (fun _ => by kernel_rfl) Bp_8 rfl (by simp) rfl
    have Bm_9 := Bm_8.gk G9 ne_m_p
    have Bg_9 := Bg_8.gk G9 hgp
    have Kp9 := Kp8.set G9 (Or.inr lo_p)
    have sg_9 := sg_8.gs Bp_8 G9
    have Kl_9 := Kl_8.set G9 (Or.inl (by simp))
    refine mt_n (ex_st h164_107 h153_107 hr9) (Bm_9) ?_
    clear Bm_8 Bg_8 Kp8 sg_8 Kl_8 Bp_8 hr9 G9
    refine mt_p (ex_nil (ad := ⟨gp, 0, none⟩) h146_107) (Bm_9) (by rw [F107.size]; decide) fun a108 u108 (h165_108 : a108.tmps.getD 165 undef = (.pointer (some ⟨gp, 0, none⟩))) => ?_
    have F108 := F107.pt u108
    have h1_108 := u108.v 1 h1_107 (by decide)
    have h2_108 := u108.v 2 h2_107 (by decide)
    have h6_108 := u108.v 6 h6_107 (by decide)
    have h143_108 := u108.v 143 h143_107 (by decide)
    have h144_108 := u108.v 144 h144_107 (by decide)
    have h145_108 := u108.v 145 h145_107 (by decide)
    have h146_108 := u108.v 146 h146_107 (by decide)
    have h147_108 := u108.v 147 h147_107 (by decide)
    have h148_108 := u108.v 148 h148_107 (by decide)
    have h149_108 := u108.v 149 h149_107 (by decide)
    have h150_108 := u108.v 150 h150_107 (by decide)
    have h151_108 := u108.v 151 h151_107 (by decide)
    have h152_108 := u108.v 152 h152_107 (by decide)
    have h153_108 := u108.v 153 h153_107 (by decide)
    have h154_108 := u108.v 154 h154_107 (by decide)
    have h155_108 := u108.v 155 h155_107 (by decide)
    have h156_108 := u108.v 156 h156_107 (by decide)
    have h157_108 := u108.v 157 h157_107 (by decide)
    have h158_108 := u108.v 158 h158_107 (by decide)
    have h159_108 := u108.v 159 h159_107 (by decide)
    have h160_108 := u108.v 160 h160_107 (by decide)
    have h161_108 := u108.v 161 h161_107 (by decide)
    have h162_108 := u108.v 162 h162_107 (by decide)
    have h163_108 := u108.v 163 h163_107 (by decide)
    have h164_108 := u108.v 164 h164_107 (by decide)
    clear h1_107 h2_107 h6_107 h143_107 h144_107 h145_107 h146_107 h147_107 h148_107 h149_107 h150_107 h151_107 h152_107 h153_107 h154_107 h155_107 h156_107 h157_107 h158_107 h159_107 h160_107 h161_107 h162_107 h163_107 h164_107 u108 F107
    refine mt_p (ex_fa (T := 70) (f := 6) (k := 6) (b := gp) (fun _ _ => by kernel_rfl) h165_108) (Bm_9) (by rw [F108.size]; decide) fun a109 u109 (h166_109 : a109.tmps.getD 166 undef = (.pointer (some ⟨gp, 6, none⟩))) => ?_
    have F109 := F108.pt u109
    have h1_109 := u109.v 1 h1_108 (by decide)
    have h2_109 := u109.v 2 h2_108 (by decide)
    have h6_109 := u109.v 6 h6_108 (by decide)
    have h143_109 := u109.v 143 h143_108 (by decide)
    have h144_109 := u109.v 144 h144_108 (by decide)
    have h145_109 := u109.v 145 h145_108 (by decide)
    have h146_109 := u109.v 146 h146_108 (by decide)
    have h147_109 := u109.v 147 h147_108 (by decide)
    have h148_109 := u109.v 148 h148_108 (by decide)
    have h149_109 := u109.v 149 h149_108 (by decide)
    have h150_109 := u109.v 150 h150_108 (by decide)
    have h151_109 := u109.v 151 h151_108 (by decide)
    have h152_109 := u109.v 152 h152_108 (by decide)
    have h153_109 := u109.v 153 h153_108 (by decide)
    have h154_109 := u109.v 154 h154_108 (by decide)
    have h155_109 := u109.v 155 h155_108 (by decide)
    have h156_109 := u109.v 156 h156_108 (by decide)
    have h157_109 := u109.v 157 h157_108 (by decide)
    have h158_109 := u109.v 158 h158_108 (by decide)
    have h159_109 := u109.v 159 h159_108 (by decide)
    have h160_109 := u109.v 160 h160_108 (by decide)
    have h161_109 := u109.v 161 h161_108 (by decide)
    have h162_109 := u109.v 162 h162_108 (by decide)
    have h163_109 := u109.v 163 h163_108 (by decide)
    have h164_109 := u109.v 164 h164_108 (by decide)
    have h165_109 := u109.v 165 h165_108 (by decide)
    clear h1_108 h2_108 h6_108 h143_108 h144_108 h145_108 h146_108 h147_108 h148_108 h149_108 h150_108 h151_108 h152_108 h153_108 h154_108 h155_108 h156_108 h157_108 h158_108 h159_108 h160_108 h161_108 h162_108 h163_108 h164_108 h165_108 u109 F108
    obtain ⟨w10, hr10, Bp_10, G10⟩ := st_run (T := 62) (o := 6) (v := (.int .u64 ty)) (cs' := #[(.float .f64 (fn (tmax T segs))), (.int .u64 seq), (.slice (some ⟨gg, 0, none⟩) cap cap), (.string { data := #[] }), (.bool ifr), (.bool clo), (.int .u64 ty), (.int .u64 0), (.float .f64 0), (.bool false), (.bool false), (.int .i64 0), (.int .u64 win), (.int .u64 cap), (.int .u64 0), (.int .u64 ((segs.length % cap) : Nat)), (.int .u64 (segs.length : Nat)), (.slice none 0 0), (.int .i64 0), (.int .i8 0), (.int .u8 3), (.pointer none), (.pointer none)]) (fun _ => by kernel_rfl) Bp_9 rfl (by simp) rfl
    have Bm_10 := Bm_9.gk G10 ne_m_p
    have Bg_10 := Bg_9.gk G10 hgp
    have Kp10 := Kp9.set G10 (Or.inr lo_p)
    have sg_10 := sg_9.gs Bp_9 G10
    have Kl_10 := Kl_9.set G10 (Or.inl (by simp))
    refine mt_n (ex_st h166_109 h156_109 hr10) (Bm_10) ?_
    clear Bm_9 Bg_9 Kp9 sg_9 Kl_9 Bp_9 hr10 G10
    refine mt_p (ex_nil (ad := ⟨gp, 0, none⟩) h147_109) (Bm_10) (by rw [F109.size]; decide) fun a110 u110 (h167_110 : a110.tmps.getD 167 undef = (.pointer (some ⟨gp, 0, none⟩))) => ?_
    have F110 := F109.pt u110
    have h1_110 := u110.v 1 h1_109 (by decide)
    have h2_110 := u110.v 2 h2_109 (by decide)
    have h6_110 := u110.v 6 h6_109 (by decide)
    have h143_110 := u110.v 143 h143_109 (by decide)
    have h144_110 := u110.v 144 h144_109 (by decide)
    have h145_110 := u110.v 145 h145_109 (by decide)
    have h146_110 := u110.v 146 h146_109 (by decide)
    have h147_110 := u110.v 147 h147_109 (by decide)
    have h148_110 := u110.v 148 h148_109 (by decide)
    have h149_110 := u110.v 149 h149_109 (by decide)
    have h150_110 := u110.v 150 h150_109 (by decide)
    have h151_110 := u110.v 151 h151_109 (by decide)
    have h152_110 := u110.v 152 h152_109 (by decide)
    have h153_110 := u110.v 153 h153_109 (by decide)
    have h154_110 := u110.v 154 h154_109 (by decide)
    have h155_110 := u110.v 155 h155_109 (by decide)
    have h156_110 := u110.v 156 h156_109 (by decide)
    have h157_110 := u110.v 157 h157_109 (by decide)
    have h158_110 := u110.v 158 h158_109 (by decide)
    have h159_110 := u110.v 159 h159_109 (by decide)
    have h160_110 := u110.v 160 h160_109 (by decide)
    have h161_110 := u110.v 161 h161_109 (by decide)
    have h162_110 := u110.v 162 h162_109 (by decide)
    have h163_110 := u110.v 163 h163_109 (by decide)
    have h164_110 := u110.v 164 h164_109 (by decide)
    have h165_110 := u110.v 165 h165_109 (by decide)
    have h166_110 := u110.v 166 h166_109 (by decide)
    clear h1_109 h2_109 h6_109 h143_109 h144_109 h145_109 h146_109 h147_109 h148_109 h149_109 h150_109 h151_109 h152_109 h153_109 h154_109 h155_109 h156_109 h157_109 h158_109 h159_109 h160_109 h161_109 h162_109 h163_109 h164_109 h165_109 h166_109 u110 F109
    refine mt_p (ex_fa (T := 70) (f := 7) (k := 7) (b := gp) (fun _ _ => by kernel_rfl) h167_110) (Bm_10) (by rw [F110.size]; decide) fun a111 u111 (h168_111 : a111.tmps.getD 168 undef = (.pointer (some ⟨gp, 7, none⟩))) => ?_
    have F111 := F110.pt u111
    have h1_111 := u111.v 1 h1_110 (by decide)
    have h2_111 := u111.v 2 h2_110 (by decide)
    have h6_111 := u111.v 6 h6_110 (by decide)
    have h143_111 := u111.v 143 h143_110 (by decide)
    have h144_111 := u111.v 144 h144_110 (by decide)
    have h145_111 := u111.v 145 h145_110 (by decide)
    have h146_111 := u111.v 146 h146_110 (by decide)
    have h147_111 := u111.v 147 h147_110 (by decide)
    have h148_111 := u111.v 148 h148_110 (by decide)
    have h149_111 := u111.v 149 h149_110 (by decide)
    have h150_111 := u111.v 150 h150_110 (by decide)
    have h151_111 := u111.v 151 h151_110 (by decide)
    have h152_111 := u111.v 152 h152_110 (by decide)
    have h153_111 := u111.v 153 h153_110 (by decide)
    have h154_111 := u111.v 154 h154_110 (by decide)
    have h155_111 := u111.v 155 h155_110 (by decide)
    have h156_111 := u111.v 156 h156_110 (by decide)
    have h157_111 := u111.v 157 h157_110 (by decide)
    have h158_111 := u111.v 158 h158_110 (by decide)
    have h159_111 := u111.v 159 h159_110 (by decide)
    have h160_111 := u111.v 160 h160_110 (by decide)
    have h161_111 := u111.v 161 h161_110 (by decide)
    have h162_111 := u111.v 162 h162_110 (by decide)
    have h163_111 := u111.v 163 h163_110 (by decide)
    have h164_111 := u111.v 164 h164_110 (by decide)
    have h165_111 := u111.v 165 h165_110 (by decide)
    have h166_111 := u111.v 166 h166_110 (by decide)
    have h167_111 := u111.v 167 h167_110 (by decide)
    clear h1_110 h2_110 h6_110 h143_110 h144_110 h145_110 h146_110 h147_110 h148_110 h149_110 h150_110 h151_110 h152_110 h153_110 h154_110 h155_110 h156_110 h157_110 h158_110 h159_110 h160_110 h161_110 h162_110 h163_110 h164_110 h165_110 h166_110 h167_110 u111 F110
    obtain ⟨w11, hr11, Bp_11, G11⟩ := st_run (T := 25) (o := 7) (v := (.int .u64 dsq)) (cs' := #[(.float .f64 (fn (tmax T segs))), (.int .u64 seq), (.slice (some ⟨gg, 0, none⟩) cap cap), (.string { data := #[] }), (.bool ifr), (.bool clo), (.int .u64 ty), (.int .u64 dsq), (.float .f64 0), (.bool false), (.bool false), (.int .i64 0), (.int .u64 win), (.int .u64 cap), (.int .u64 0), (.int .u64 ((segs.length % cap) : Nat)), (.int .u64 (segs.length : Nat)), (.slice none 0 0), (.int .i64 0), (.int .i8 0), (.int .u8 3), (.pointer none), (.pointer none)]) (fun _ => by kernel_rfl) Bp_10 rfl (by simp) rfl
    have Bm_11 := Bm_10.gk G11 ne_m_p
    have Bg_11 := Bg_10.gk G11 hgp
    have Kp11 := Kp10.set G11 (Or.inr lo_p)
    have sg_11 := sg_10.gs Bp_10 G11
    have Kl_11 := Kl_10.set G11 (Or.inl (by simp))
    refine mt_n (ex_st h168_111 h158_111 hr11) (Bm_11) ?_
    clear Bm_10 Bg_10 Kp10 sg_10 Kl_10 Bp_10 hr11 G11
    change Code.wp _ _ _ _ _
    refine wp_seq ?_
    obtain ⟨w12, hw12⟩ : ∃ w, w = w11.drew := ⟨_, rfl⟩
    have G12 : w11.grownBy w12 none := hw12 ▸ grown_drew _
    have Bm_12 := Bm_11.gn G12
    have Bp_12 := Bp_11.gn G12
    have Bg_12 := Bg_11.gn G12
    have Kp12 := Kp11.new G12
    have sg_12 := sg_11.gn G12
    have Kl_12 := Kl_11.new G12
    refine rg_ord (S := fun w' => Blk w' gm 36 #[(.float .f64 (fn T)), (.int .u64 seq), sv, (.string { data := #[] }), (.bool ifr), (.bool clo), (.int .i64 ty), (.int .u64 dsq), (.float .f64 (fb st)), (.bool pre), (.int .i64 ver), kv, mv, (.int .i64 win)]) [0, 1, 2, 3, 4, 5, 6, 7, 8, 9, 11, 12] [10, 13, 14, 15, 16, 17, 18, 19, 20, 21, 22, 23, 24, 25] ⟨rfl, by decide⟩ hmix (by kernel_rfl) (by rw [show w11.drew = w12 from hw12.symm]; exact Bm_12) ?_
    rw [show w11.drew = w12 from hw12.symm]
    clear Bm_11 Bp_11 Bg_11 Kp11 sg_11 Kl_11 hw12 G12
    refine mh_p (fun w hw => ex_mv (v := (.pointer (some ⟨gp, 0, none⟩))) h6_111) (by rw [F111.size]; decide) fun a112 u112 (h169_112 : a112.tmps.getD 169 undef = (.pointer (some ⟨gp, 0, none⟩))) => ?_
    have F112 := F111.pt u112
    have h1_112 := u112.v 1 h1_111 (by decide)
    have h2_112 := u112.v 2 h2_111 (by decide)
    have h6_112 := u112.v 6 h6_111 (by decide)
    clear h1_111 h2_111 h6_111 h143_111 h144_111 h145_111 h146_111 h147_111 h148_111 h149_111 h150_111 h151_111 h152_111 h153_111 h154_111 h155_111 h156_111 h157_111 h158_111 h159_111 h160_111 h161_111 h162_111 h163_111 h164_111 h165_111 h166_111 h167_111 h168_111 u112 F111
    refine mh_p (fun w hw => ex_mv (v := (.pointer (some ⟨gp, 0, none⟩))) h6_112) (by rw [F112.size]; decide) fun a113 u113 (h170_113 : a113.tmps.getD 170 undef = (.pointer (some ⟨gp, 0, none⟩))) => ?_
    have F113 := F112.pt u113
    have h1_113 := u113.v 1 h1_112 (by decide)
    have h2_113 := u113.v 2 h2_112 (by decide)
    have h6_113 := u113.v 6 h6_112 (by decide)
    have h169_113 := u113.v 169 h169_112 (by decide)
    clear h1_112 h2_112 h6_112 h169_112 u113 F112
    refine mh_p (fun w hw => ex_mv (v := (.pointer (some ⟨gp, 0, none⟩))) h6_113) (by rw [F113.size]; decide) fun a114 u114 (h171_114 : a114.tmps.getD 171 undef = (.pointer (some ⟨gp, 0, none⟩))) => ?_
    have F114 := F113.pt u114
    have h1_114 := u114.v 1 h1_113 (by decide)
    have h2_114 := u114.v 2 h2_113 (by decide)
    have h6_114 := u114.v 6 h6_113 (by decide)
    have h169_114 := u114.v 169 h169_113 (by decide)
    have h170_114 := u114.v 170 h170_113 (by decide)
    clear h1_113 h2_113 h6_113 h169_113 h170_113 u114 F113
    refine mh_p (fun w hw => ex_mv (v := (.pointer (some ⟨gp, 0, none⟩))) h6_114) (by rw [F114.size]; decide) fun a115 u115 (h172_115 : a115.tmps.getD 172 undef = (.pointer (some ⟨gp, 0, none⟩))) => ?_
    have F115 := F114.pt u115
    have h1_115 := u115.v 1 h1_114 (by decide)
    have h2_115 := u115.v 2 h2_114 (by decide)
    have h6_115 := u115.v 6 h6_114 (by decide)
    have h169_115 := u115.v 169 h169_114 (by decide)
    have h170_115 := u115.v 170 h170_114 (by decide)
    have h171_115 := u115.v 171 h171_114 (by decide)
    clear h1_114 h2_114 h6_114 h169_114 h170_114 h171_114 u115 F114
    refine mh_p (fun w hw => ex_fa (T := 36) (f := 8) (k := 8) (b := gm) (fun _ _ => by kernel_rfl) h2_115) (by rw [F115.size]; decide) fun a116 u116 (h173_116 : a116.tmps.getD 173 undef = (.pointer (some ⟨gm, 8, none⟩))) => ?_
    have F116 := F115.pt u116
    have h1_116 := u116.v 1 h1_115 (by decide)
    have h2_116 := u116.v 2 h2_115 (by decide)
    have h6_116 := u116.v 6 h6_115 (by decide)
    have h169_116 := u116.v 169 h169_115 (by decide)
    have h170_116 := u116.v 170 h170_115 (by decide)
    have h171_116 := u116.v 171 h171_115 (by decide)
    have h172_116 := u116.v 172 h172_115 (by decide)
    clear h1_115 h2_115 h6_115 h169_115 h170_115 h171_115 h172_115 u116 F115
    refine mh_p (fun w hw => ex_ld (v := (.float .f64 (fb st))) (ad := ⟨gm, 8, none⟩) (fun _ => by kernel_rfl) h173_116 (hw.cell 8)) (by rw [F116.size]; decide) fun a117 u117 (h174_117 : a117.tmps.getD 174 undef = (.float .f64 (fb st))) => ?_
    have F117 := F116.pt u117
    have h1_117 := u117.v 1 h1_116 (by decide)
    have h2_117 := u117.v 2 h2_116 (by decide)
    have h6_117 := u117.v 6 h6_116 (by decide)
    have h169_117 := u117.v 169 h169_116 (by decide)
    have h170_117 := u117.v 170 h170_116 (by decide)
    have h171_117 := u117.v 171 h171_116 (by decide)
    have h172_117 := u117.v 172 h172_116 (by decide)
    have h173_117 := u117.v 173 h173_116 (by decide)
    clear h1_116 h2_116 h6_116 h169_116 h170_116 h171_116 h172_116 h173_116 u117 F116
    refine mh_p (fun w hw => ex_fa (T := 36) (f := 9) (k := 9) (b := gm) (fun _ _ => by kernel_rfl) h2_117) (by rw [F117.size]; decide) fun a118 u118 (h175_118 : a118.tmps.getD 175 undef = (.pointer (some ⟨gm, 9, none⟩))) => ?_
    have F118 := F117.pt u118
    have h1_118 := u118.v 1 h1_117 (by decide)
    have h2_118 := u118.v 2 h2_117 (by decide)
    have h6_118 := u118.v 6 h6_117 (by decide)
    have h169_118 := u118.v 169 h169_117 (by decide)
    have h170_118 := u118.v 170 h170_117 (by decide)
    have h171_118 := u118.v 171 h171_117 (by decide)
    have h172_118 := u118.v 172 h172_117 (by decide)
    have h173_118 := u118.v 173 h173_117 (by decide)
    have h174_118 := u118.v 174 h174_117 (by decide)
    clear h1_117 h2_117 h6_117 h169_117 h170_117 h171_117 h172_117 h173_117 h174_117 u118 F117
    refine mh_p (fun w hw => ex_ld (v := (.bool pre)) (ad := ⟨gm, 9, none⟩) (fun _ => by kernel_rfl) h175_118 (hw.cell 9)) (by rw [F118.size]; decide) fun a119 u119 (h176_119 : a119.tmps.getD 176 undef = (.bool pre)) => ?_
    have F119 := F118.pt u119
    have h1_119 := u119.v 1 h1_118 (by decide)
    have h2_119 := u119.v 2 h2_118 (by decide)
    have h6_119 := u119.v 6 h6_118 (by decide)
    have h169_119 := u119.v 169 h169_118 (by decide)
    have h170_119 := u119.v 170 h170_118 (by decide)
    have h171_119 := u119.v 171 h171_118 (by decide)
    have h172_119 := u119.v 172 h172_118 (by decide)
    have h173_119 := u119.v 173 h173_118 (by decide)
    have h174_119 := u119.v 174 h174_118 (by decide)
    have h175_119 := u119.v 175 h175_118 (by decide)
    clear h1_118 h2_118 h6_118 h169_118 h170_118 h171_118 h172_118 h173_118 h174_118 h175_118 u119 F118
    refine mh_p (fun w hw => ex_fa (T := 36) (f := 11) (k := 11) (b := gm) (fun _ _ => by kernel_rfl) h2_119) (by rw [F119.size]; decide) fun a120 u120 (h177_120 : a120.tmps.getD 177 undef = (.pointer (some ⟨gm, 11, none⟩))) => ?_
    have F120 := F119.pt u120
    have h1_120 := u120.v 1 h1_119 (by decide)
    have h2_120 := u120.v 2 h2_119 (by decide)
    have h6_120 := u120.v 6 h6_119 (by decide)
    have h169_120 := u120.v 169 h169_119 (by decide)
    have h170_120 := u120.v 170 h170_119 (by decide)
    have h171_120 := u120.v 171 h171_119 (by decide)
    have h172_120 := u120.v 172 h172_119 (by decide)
    have h173_120 := u120.v 173 h173_119 (by decide)
    have h174_120 := u120.v 174 h174_119 (by decide)
    have h175_120 := u120.v 175 h175_119 (by decide)
    have h176_120 := u120.v 176 h176_119 (by decide)
    clear h1_119 h2_119 h6_119 h169_119 h170_119 h171_119 h172_119 h173_119 h174_119 h175_119 h176_119 u120 F119
    refine mh_p (fun w hw => ex_ld (v := kv) (ad := ⟨gm, 11, none⟩) (fun _ => by kernel_rfl) h177_120 (hw.cell 11)) (by rw [F120.size]; decide) fun a121 u121 (h178_121 : a121.tmps.getD 178 undef = kv) => ?_
    have F121 := F120.pt u121
    have h1_121 := u121.v 1 h1_120 (by decide)
    have h2_121 := u121.v 2 h2_120 (by decide)
    have h6_121 := u121.v 6 h6_120 (by decide)
    have h169_121 := u121.v 169 h169_120 (by decide)
    have h170_121 := u121.v 170 h170_120 (by decide)
    have h171_121 := u121.v 171 h171_120 (by decide)
    have h172_121 := u121.v 172 h172_120 (by decide)
    have h173_121 := u121.v 173 h173_120 (by decide)
    have h174_121 := u121.v 174 h174_120 (by decide)
    have h175_121 := u121.v 175 h175_120 (by decide)
    have h176_121 := u121.v 176 h176_120 (by decide)
    have h177_121 := u121.v 177 h177_120 (by decide)
    clear h1_120 h2_120 h6_120 h169_120 h170_120 h171_120 h172_120 h173_120 h174_120 h175_120 h176_120 h177_120 u121 F120
    refine mh_p (fun w hw => ex_fa (T := 36) (f := 12) (k := 12) (b := gm) (fun _ _ => by kernel_rfl) h2_121) (by rw [F121.size]; decide) fun a122 u122 (h180_122 : a122.tmps.getD 180 undef = (.pointer (some ⟨gm, 12, none⟩))) => ?_
    have F122 := F121.pt u122
    have h1_122 := u122.v 1 h1_121 (by decide)
    have h2_122 := u122.v 2 h2_121 (by decide)
    have h6_122 := u122.v 6 h6_121 (by decide)
    have h169_122 := u122.v 169 h169_121 (by decide)
    have h170_122 := u122.v 170 h170_121 (by decide)
    have h171_122 := u122.v 171 h171_121 (by decide)
    have h172_122 := u122.v 172 h172_121 (by decide)
    have h173_122 := u122.v 173 h173_121 (by decide)
    have h174_122 := u122.v 174 h174_121 (by decide)
    have h175_122 := u122.v 175 h175_121 (by decide)
    have h176_122 := u122.v 176 h176_121 (by decide)
    have h177_122 := u122.v 177 h177_121 (by decide)
    have h178_122 := u122.v 178 h178_121 (by decide)
    clear h1_121 h2_121 h6_121 h169_121 h170_121 h171_121 h172_121 h173_121 h174_121 h175_121 h176_121 h177_121 h178_121 u122 F121
    refine mh_p (fun w hw => ex_ld (v := mv) (ad := ⟨gm, 12, none⟩) (fun _ => by kernel_rfl) h180_122 (hw.cell 12)) (by rw [F122.size]; decide) fun a123 u123 (h181_123 : a123.tmps.getD 181 undef = mv) => ?_
    have F123 := F122.pt u123
    have h1_123 := u123.v 1 h1_122 (by decide)
    have h2_123 := u123.v 2 h2_122 (by decide)
    have h6_123 := u123.v 6 h6_122 (by decide)
    have h169_123 := u123.v 169 h169_122 (by decide)
    have h170_123 := u123.v 170 h170_122 (by decide)
    have h171_123 := u123.v 171 h171_122 (by decide)
    have h172_123 := u123.v 172 h172_122 (by decide)
    have h173_123 := u123.v 173 h173_122 (by decide)
    have h174_123 := u123.v 174 h174_122 (by decide)
    have h175_123 := u123.v 175 h175_122 (by decide)
    have h176_123 := u123.v 176 h176_122 (by decide)
    have h177_123 := u123.v 177 h177_122 (by decide)
    have h178_123 := u123.v 178 h178_122 (by decide)
    have h180_123 := u123.v 180 h180_122 (by decide)
    clear h1_122 h2_122 h6_122 h169_122 h170_122 h171_122 h172_122 h173_122 h174_122 h175_122 h176_122 h177_122 h178_122 h180_122 u123 F122
    refine mt_cl (args := #[kv]) (R := fun v w' => ∃ kp, v = pto kp ∧ KeyP w' w12.heap.size kp key ∧ w12.grownBy w' none) (ex_cl (fun _ _ => by kernel_rfl) (arg1 h178_123)) ((keyTo_any (hks.gn Kp12.grown)).mono fun _ _ ⟨kp, h⟩ => ⟨_, h.1, kp, rfl, h.2⟩) (by rw [F123.size]; decide) ?_
    rintro v w13 ⟨kp, rfl, kk_13, G13⟩
    have hhi : ∀ x, kp = some x → w5.heap.size ≤ x := fun x e => by have := kk_13.ge x e; have := Kl_12.size; omega
    have Bm_13 := Bm_12.gn G13
    have Bp_13 := Bp_12.gn G13
    have Bg_13 := Bg_12.gn G13
    have Kp13 := Kp12.new G13
    have sg_13 := sg_12.gn G13
    refine ⟨Bm_13, ?_⟩
    intro a124 u124 h179_124
    have F124 := F123.pt u124
    have h1_124 := u124.v 1 h1_123 (by decide)
    have h2_124 := u124.v 2 h2_123 (by decide)
    have h6_124 := u124.v 6 h6_123 (by decide)
    have h169_124 := u124.v 169 h169_123 (by decide)
    have h170_124 := u124.v 170 h170_123 (by decide)
    have h171_124 := u124.v 171 h171_123 (by decide)
    have h172_124 := u124.v 172 h172_123 (by decide)
    have h173_124 := u124.v 173 h173_123 (by decide)
    have h174_124 := u124.v 174 h174_123 (by decide)
    have h175_124 := u124.v 175 h175_123 (by decide)
    have h176_124 := u124.v 176 h176_123 (by decide)
    have h177_124 := u124.v 177 h177_123 (by decide)
    have h178_124 := u124.v 178 h178_123 (by decide)
    have h180_124 := u124.v 180 h180_123 (by decide)
    have h181_124 := u124.v 181 h181_123 (by decide)
    clear h1_123 h2_123 h6_123 h169_123 h170_123 h171_123 h172_123 h173_123 h174_123 h175_123 h176_123 h177_123 h178_123 h180_123 h181_123 u124 F123
    clear Bm_12 Bp_12 Bg_12 Kp12 sg_12 G13
    refine mt_cl (args := #[mv]) (R := fun v w' => ∃ kp, v = pto kp ∧ MapP w' w13.heap.size kp map ∧ w13.grownBy w' none) (ex_cl (fun _ _ => by kernel_rfl) (arg1 h181_124)) ((mapTo_any (hms.gn Kp13.grown)).mono fun _ _ ⟨kp, h⟩ => ⟨_, h.1, kp, rfl, h.2⟩) (by rw [F124.size]; decide) ?_
    rintro v w14 ⟨mp, rfl, mm_14, G14⟩
    have Bm_14 := Bm_13.gn G14
    have Bp_14 := Bp_13.gn G14
    have Bg_14 := Bg_13.gn G14
    have Kp14 := Kp13.new G14
    have sg_14 := sg_13.gn G14
    have kk_14 := kk_13.gn G14
    refine ⟨Bm_14, ?_⟩
    intro a125 u125 h182_125
    have F125 := F124.pt u125
    have h1_125 := u125.v 1 h1_124 (by decide)
    have h2_125 := u125.v 2 h2_124 (by decide)
    have h6_125 := u125.v 6 h6_124 (by decide)
    have h169_125 := u125.v 169 h169_124 (by decide)
    have h170_125 := u125.v 170 h170_124 (by decide)
    have h171_125 := u125.v 171 h171_124 (by decide)
    have h172_125 := u125.v 172 h172_124 (by decide)
    have h173_125 := u125.v 173 h173_124 (by decide)
    have h174_125 := u125.v 174 h174_124 (by decide)
    have h175_125 := u125.v 175 h175_124 (by decide)
    have h176_125 := u125.v 176 h176_124 (by decide)
    have h177_125 := u125.v 177 h177_124 (by decide)
    have h178_125 := u125.v 178 h178_124 (by decide)
    have h180_125 := u125.v 180 h180_124 (by decide)
    have h181_125 := u125.v 181 h181_124 (by decide)
    have h179_125 := u125.v 179 h179_124 (by decide)
    clear h1_124 h2_124 h6_124 h169_124 h170_124 h171_124 h172_124 h173_124 h174_124 h175_124 h176_124 h177_124 h178_124 h180_124 h181_124 h179_124 u125 F124
    clear Bm_13 Bp_13 Bg_13 Kp13 sg_13 kk_13 G14
    refine mt_p (ex_nil (ad := ⟨gp, 0, none⟩) h169_125) (Bm_14) (by rw [F125.size]; decide) fun a126 u126 (h183_126 : a126.tmps.getD 183 undef = (.pointer (some ⟨gp, 0, none⟩))) => ?_
    have F126 := F125.pt u126
    have h1_126 := u126.v 1 h1_125 (by decide)
    have h2_126 := u126.v 2 h2_125 (by decide)
    have h6_126 := u126.v 6 h6_125 (by decide)
    have h169_126 := u126.v 169 h169_125 (by decide)
    have h170_126 := u126.v 170 h170_125 (by decide)
    have h171_126 := u126.v 171 h171_125 (by decide)
    have h172_126 := u126.v 172 h172_125 (by decide)
    have h173_126 := u126.v 173 h173_125 (by decide)
    have h174_126 := u126.v 174 h174_125 (by decide)
    have h175_126 := u126.v 175 h175_125 (by decide)
    have h176_126 := u126.v 176 h176_125 (by decide)
    have h177_126 := u126.v 177 h177_125 (by decide)
    have h178_126 := u126.v 178 h178_125 (by decide)
    have h180_126 := u126.v 180 h180_125 (by decide)
    have h181_126 := u126.v 181 h181_125 (by decide)
    have h179_126 := u126.v 179 h179_125 (by decide)
    have h182_126 := u126.v 182 h182_125 (by decide)
    clear h1_125 h2_125 h6_125 h169_125 h170_125 h171_125 h172_125 h173_125 h174_125 h175_125 h176_125 h177_125 h178_125 h180_125 h181_125 h179_125 h182_125 u126 F125
    refine mt_p (ex_fa (T := 70) (f := 8) (k := 8) (b := gp) (fun _ _ => by kernel_rfl) h183_126) (Bm_14) (by rw [F126.size]; decide) fun a127 u127 (h184_127 : a127.tmps.getD 184 undef = (.pointer (some ⟨gp, 8, none⟩))) => ?_
    have F127 := F126.pt u127
    have h1_127 := u127.v 1 h1_126 (by decide)
    have h2_127 := u127.v 2 h2_126 (by decide)
    have h6_127 := u127.v 6 h6_126 (by decide)
    have h169_127 := u127.v 169 h169_126 (by decide)
    have h170_127 := u127.v 170 h170_126 (by decide)
    have h171_127 := u127.v 171 h171_126 (by decide)
    have h172_127 := u127.v 172 h172_126 (by decide)
    have h173_127 := u127.v 173 h173_126 (by decide)
    have h174_127 := u127.v 174 h174_126 (by decide)
    have h175_127 := u127.v 175 h175_126 (by decide)
    have h176_127 := u127.v 176 h176_126 (by decide)
    have h177_127 := u127.v 177 h177_126 (by decide)
    have h178_127 := u127.v 178 h178_126 (by decide)
    have h180_127 := u127.v 180 h180_126 (by decide)
    have h181_127 := u127.v 181 h181_126 (by decide)
    have h179_127 := u127.v 179 h179_126 (by decide)
    have h182_127 := u127.v 182 h182_126 (by decide)
    have h183_127 := u127.v 183 h183_126 (by decide)
    clear h1_126 h2_126 h6_126 h169_126 h170_126 h171_126 h172_126 h173_126 h174_126 h175_126 h176_126 h177_126 h178_126 h180_126 h181_126 h179_126 h182_126 h183_126 u127 F126
    obtain ⟨w15, hr15, Bp_15, G15⟩ := st_run (T := 24) (o := 8) (v := (.float .f64 (fb st))) (cs' := #[(.float .f64 (fn (tmax T segs))), (.int .u64 seq), (.slice (some ⟨gg, 0, none⟩) cap cap), (.string { data := #[] }), (.bool ifr), (.bool clo), (.int .u64 ty), (.int .u64 dsq), (.float .f64 (fb st)), (.bool false), (.bool false), (.int .i64 0), (.int .u64 win), (.int .u64 cap), (.int .u64 0), (.int .u64 ((segs.length % cap) : Nat)), (.int .u64 (segs.length : Nat)), (.slice none 0 0), (.int .i64 0), (.int .i8 0), (.int .u8 3), (.pointer none), (.pointer none)]) (fun _ => by kernel_rfl) Bp_14 rfl (by simp) rfl
    have Bm_15 := Bm_14.gk G15 ne_m_p
    have Bg_15 := Bg_14.gk G15 hgp
    have Kp15 := Kp14.set G15 (Or.inr lo_p)
    have sg_15 := sg_14.gs Bp_14 G15
    have kk_15 := kk_14.gs Bp_14 G15
    have mm_15 := mm_14.gs Bp_14 G15
    refine mt_n (ex_st h184_127 h174_127 hr15) (Bm_15) ?_
    clear Bm_14 Bg_14 Kp14 sg_14 kk_14 mm_14 Bp_14 hr15 G15
    refine mt_p (ex_nil (ad := ⟨gp, 0, none⟩) h170_127) (Bm_15) (by rw [F127.size]; decide) fun a128 u128 (h185_128 : a128.tmps.getD 185 undef = (.pointer (some ⟨gp, 0, none⟩))) => ?_
    have F128 := F127.pt u128
    have h1_128 := u128.v 1 h1_127 (by decide)
    have h2_128 := u128.v 2 h2_127 (by decide)
    have h6_128 := u128.v 6 h6_127 (by decide)
    have h169_128 := u128.v 169 h169_127 (by decide)
    have h170_128 := u128.v 170 h170_127 (by decide)
    have h171_128 := u128.v 171 h171_127 (by decide)
    have h172_128 := u128.v 172 h172_127 (by decide)
    have h173_128 := u128.v 173 h173_127 (by decide)
    have h174_128 := u128.v 174 h174_127 (by decide)
    have h175_128 := u128.v 175 h175_127 (by decide)
    have h176_128 := u128.v 176 h176_127 (by decide)
    have h177_128 := u128.v 177 h177_127 (by decide)
    have h178_128 := u128.v 178 h178_127 (by decide)
    have h180_128 := u128.v 180 h180_127 (by decide)
    have h181_128 := u128.v 181 h181_127 (by decide)
    have h179_128 := u128.v 179 h179_127 (by decide)
    have h182_128 := u128.v 182 h182_127 (by decide)
    have h183_128 := u128.v 183 h183_127 (by decide)
    have h184_128 := u128.v 184 h184_127 (by decide)
    clear h1_127 h2_127 h6_127 h169_127 h170_127 h171_127 h172_127 h173_127 h174_127 h175_127 h176_127 h177_127 h178_127 h180_127 h181_127 h179_127 h182_127 h183_127 h184_127 u128 F127
    refine mt_p (ex_fa (T := 70) (f := 9) (k := 9) (b := gp) (fun _ _ => by kernel_rfl) h185_128) (Bm_15) (by rw [F128.size]; decide) fun a129 u129 (h186_129 : a129.tmps.getD 186 undef = (.pointer (some ⟨gp, 9, none⟩))) => ?_
    have F129 := F128.pt u129
    have h1_129 := u129.v 1 h1_128 (by decide)
    have h2_129 := u129.v 2 h2_128 (by decide)
    have h6_129 := u129.v 6 h6_128 (by decide)
    have h169_129 := u129.v 169 h169_128 (by decide)
    have h170_129 := u129.v 170 h170_128 (by decide)
    have h171_129 := u129.v 171 h171_128 (by decide)
    have h172_129 := u129.v 172 h172_128 (by decide)
    have h173_129 := u129.v 173 h173_128 (by decide)
    have h174_129 := u129.v 174 h174_128 (by decide)
    have h175_129 := u129.v 175 h175_128 (by decide)
    have h176_129 := u129.v 176 h176_128 (by decide)
    have h177_129 := u129.v 177 h177_128 (by decide)
    have h178_129 := u129.v 178 h178_128 (by decide)
    have h180_129 := u129.v 180 h180_128 (by decide)
    have h181_129 := u129.v 181 h181_128 (by decide)
    have h179_129 := u129.v 179 h179_128 (by decide)
    have h182_129 := u129.v 182 h182_128 (by decide)
    have h183_129 := u129.v 183 h183_128 (by decide)
    have h184_129 := u129.v 184 h184_128 (by decide)
    have h185_129 := u129.v 185 h185_128 (by decide)
    clear h1_128 h2_128 h6_128 h169_128 h170_128 h171_128 h172_128 h173_128 h174_128 h175_128 h176_128 h177_128 h178_128 h180_128 h181_128 h179_128 h182_128 h183_128 h184_128 h185_128 u129 F128
    obtain ⟨w16, hr16, Bp_16, G16⟩ := st_run (T := 4) (o := 9) (v := (.bool pre)) (cs' := #[(.float .f64 (fn (tmax T segs))), (.int .u64 seq), (.slice (some ⟨gg, 0, none⟩) cap cap), (.string { data := #[] }), (.bool ifr), (.bool clo), (.int .u64 ty), (.int .u64 dsq), (.float .f64 (fb st)), (.bool pre), (.bool false), (.int .i64 0), (.int .u64 win), (.int .u64 cap), (.int .u64 0), (.int .u64 ((segs.length % cap) : Nat)), (.int .u64 (segs.length : Nat)), (.slice none 0 0), (.int .i64 0), (.int .i8 0), (.int .u8 3), (.pointer none), (.pointer none)]) (fun _ => by kernel_rfl) Bp_15 rfl (by simp) rfl
    have Bm_16 := Bm_15.gk G16 ne_m_p
    have Bg_16 := Bg_15.gk G16 hgp
    have Kp16 := Kp15.set G16 (Or.inr lo_p)
    have sg_16 := sg_15.gs Bp_15 G16
    have kk_16 := kk_15.gs Bp_15 G16
    have mm_16 := mm_15.gs Bp_15 G16
    refine mt_n (ex_st h186_129 h176_129 hr16) (Bm_16) ?_
    clear Bm_15 Bg_15 Kp15 sg_15 kk_15 mm_15 Bp_15 hr16 G16
    refine mt_p (ex_nil (ad := ⟨gp, 0, none⟩) h171_129) (Bm_16) (by rw [F129.size]; decide) fun a130 u130 (h187_130 : a130.tmps.getD 187 undef = (.pointer (some ⟨gp, 0, none⟩))) => ?_
    have F130 := F129.pt u130
    have h1_130 := u130.v 1 h1_129 (by decide)
    have h2_130 := u130.v 2 h2_129 (by decide)
    have h6_130 := u130.v 6 h6_129 (by decide)
    have h169_130 := u130.v 169 h169_129 (by decide)
    have h170_130 := u130.v 170 h170_129 (by decide)
    have h171_130 := u130.v 171 h171_129 (by decide)
    have h172_130 := u130.v 172 h172_129 (by decide)
    have h173_130 := u130.v 173 h173_129 (by decide)
    have h174_130 := u130.v 174 h174_129 (by decide)
    have h175_130 := u130.v 175 h175_129 (by decide)
    have h176_130 := u130.v 176 h176_129 (by decide)
    have h177_130 := u130.v 177 h177_129 (by decide)
    have h178_130 := u130.v 178 h178_129 (by decide)
    have h180_130 := u130.v 180 h180_129 (by decide)
    have h181_130 := u130.v 181 h181_129 (by decide)
    have h179_130 := u130.v 179 h179_129 (by decide)
    have h182_130 := u130.v 182 h182_129 (by decide)
    have h183_130 := u130.v 183 h183_129 (by decide)
    have h184_130 := u130.v 184 h184_129 (by decide)
    have h185_130 := u130.v 185 h185_129 (by decide)
    have h186_130 := u130.v 186 h186_129 (by decide)
    clear h1_129 h2_129 h6_129 h169_129 h170_129 h171_129 h172_129 h173_129 h174_129 h175_129 h176_129 h177_129 h178_129 h180_129 h181_129 h179_129 h182_129 h183_129 h184_129 h185_129 h186_129 u130 F129
    refine mt_p (ex_fa (T := 70) (f := 19) (k := 21) (b := gp) (fun _ _ => by kernel_rfl) h187_130) (Bm_16) (by rw [F130.size]; decide) fun a131 u131 (h188_131 : a131.tmps.getD 188 undef = (.pointer (some ⟨gp, 21, none⟩))) => ?_
    have F131 := F130.pt u131
    have h1_131 := u131.v 1 h1_130 (by decide)
    have h2_131 := u131.v 2 h2_130 (by decide)
    have h6_131 := u131.v 6 h6_130 (by decide)
    have h169_131 := u131.v 169 h169_130 (by decide)
    have h170_131 := u131.v 170 h170_130 (by decide)
    have h171_131 := u131.v 171 h171_130 (by decide)
    have h172_131 := u131.v 172 h172_130 (by decide)
    have h173_131 := u131.v 173 h173_130 (by decide)
    have h174_131 := u131.v 174 h174_130 (by decide)
    have h175_131 := u131.v 175 h175_130 (by decide)
    have h176_131 := u131.v 176 h176_130 (by decide)
    have h177_131 := u131.v 177 h177_130 (by decide)
    have h178_131 := u131.v 178 h178_130 (by decide)
    have h180_131 := u131.v 180 h180_130 (by decide)
    have h181_131 := u131.v 181 h181_130 (by decide)
    have h179_131 := u131.v 179 h179_130 (by decide)
    have h182_131 := u131.v 182 h182_130 (by decide)
    have h183_131 := u131.v 183 h183_130 (by decide)
    have h184_131 := u131.v 184 h184_130 (by decide)
    have h185_131 := u131.v 185 h185_130 (by decide)
    have h186_131 := u131.v 186 h186_130 (by decide)
    have h187_131 := u131.v 187 h187_130 (by decide)
    clear h1_130 h2_130 h6_130 h169_130 h170_130 h171_130 h172_130 h173_130 h174_130 h175_130 h176_130 h177_130 h178_130 h180_130 h181_130 h179_130 h182_130 h183_130 h184_130 h185_130 h186_130 h187_130 u131 F130
    obtain ⟨w17, hr17, Bp_17, G17⟩ := st_run (T := 67) (o := 21) (v := (pto kp)) (cs' := #[(.float .f64 (fn (tmax T segs))), (.int .u64 seq), (.slice (some ⟨gg, 0, none⟩) cap cap), (.string { data := #[] }), (.bool ifr), (.bool clo), (.int .u64 ty), (.int .u64 dsq), (.float .f64 (fb st)), (.bool pre), (.bool false), (.int .i64 0), (.int .u64 win), (.int .u64 cap), (.int .u64 0), (.int .u64 ((segs.length % cap) : Nat)), (.int .u64 (segs.length : Nat)), (.slice none 0 0), (.int .i64 0), (.int .i8 0), (.int .u8 3), (pto kp), (.pointer none)]) (fun _ => by kernel_rfl) Bp_16 rfl (by simp) rfl
    have Bm_17 := Bm_16.gk G17 ne_m_p
    have Bg_17 := Bg_16.gk G17 hgp
    have Kp17 := Kp16.set G17 (Or.inr lo_p)
    have sg_17 := sg_16.gs Bp_16 G17
    have kk_17 := kk_16.gs Bp_16 G17
    have mm_17 := mm_16.gs Bp_16 G17
    refine mt_n (ex_st h188_131 h179_131 hr17) (Bm_17) ?_
    clear Bm_16 Bg_16 Kp16 sg_16 kk_16 mm_16 Bp_16 hr17 G17
    refine mt_p (ex_nil (ad := ⟨gp, 0, none⟩) h172_131) (Bm_17) (by rw [F131.size]; decide) fun a132 u132 (h189_132 : a132.tmps.getD 189 undef = (.pointer (some ⟨gp, 0, none⟩))) => ?_
    have F132 := F131.pt u132
    have h1_132 := u132.v 1 h1_131 (by decide)
    have h2_132 := u132.v 2 h2_131 (by decide)
    have h6_132 := u132.v 6 h6_131 (by decide)
    have h169_132 := u132.v 169 h169_131 (by decide)
    have h170_132 := u132.v 170 h170_131 (by decide)
    have h171_132 := u132.v 171 h171_131 (by decide)
    have h172_132 := u132.v 172 h172_131 (by decide)
    have h173_132 := u132.v 173 h173_131 (by decide)
    have h174_132 := u132.v 174 h174_131 (by decide)
    have h175_132 := u132.v 175 h175_131 (by decide)
    have h176_132 := u132.v 176 h176_131 (by decide)
    have h177_132 := u132.v 177 h177_131 (by decide)
    have h178_132 := u132.v 178 h178_131 (by decide)
    have h180_132 := u132.v 180 h180_131 (by decide)
    have h181_132 := u132.v 181 h181_131 (by decide)
    have h179_132 := u132.v 179 h179_131 (by decide)
    have h182_132 := u132.v 182 h182_131 (by decide)
    have h183_132 := u132.v 183 h183_131 (by decide)
    have h184_132 := u132.v 184 h184_131 (by decide)
    have h185_132 := u132.v 185 h185_131 (by decide)
    have h186_132 := u132.v 186 h186_131 (by decide)
    have h187_132 := u132.v 187 h187_131 (by decide)
    have h188_132 := u132.v 188 h188_131 (by decide)
    clear h1_131 h2_131 h6_131 h169_131 h170_131 h171_131 h172_131 h173_131 h174_131 h175_131 h176_131 h177_131 h178_131 h180_131 h181_131 h179_131 h182_131 h183_131 h184_131 h185_131 h186_131 h187_131 h188_131 u132 F131
    refine mt_p (ex_fa (T := 70) (f := 20) (k := 22) (b := gp) (fun _ _ => by kernel_rfl) h189_132) (Bm_17) (by rw [F132.size]; decide) fun a133 u133 (h190_133 : a133.tmps.getD 190 undef = (.pointer (some ⟨gp, 22, none⟩))) => ?_
    have F133 := F132.pt u133
    have h1_133 := u133.v 1 h1_132 (by decide)
    have h2_133 := u133.v 2 h2_132 (by decide)
    have h6_133 := u133.v 6 h6_132 (by decide)
    have h169_133 := u133.v 169 h169_132 (by decide)
    have h170_133 := u133.v 170 h170_132 (by decide)
    have h171_133 := u133.v 171 h171_132 (by decide)
    have h172_133 := u133.v 172 h172_132 (by decide)
    have h173_133 := u133.v 173 h173_132 (by decide)
    have h174_133 := u133.v 174 h174_132 (by decide)
    have h175_133 := u133.v 175 h175_132 (by decide)
    have h176_133 := u133.v 176 h176_132 (by decide)
    have h177_133 := u133.v 177 h177_132 (by decide)
    have h178_133 := u133.v 178 h178_132 (by decide)
    have h180_133 := u133.v 180 h180_132 (by decide)
    have h181_133 := u133.v 181 h181_132 (by decide)
    have h179_133 := u133.v 179 h179_132 (by decide)
    have h182_133 := u133.v 182 h182_132 (by decide)
    have h183_133 := u133.v 183 h183_132 (by decide)
    have h184_133 := u133.v 184 h184_132 (by decide)
    have h185_133 := u133.v 185 h185_132 (by decide)
    have h186_133 := u133.v 186 h186_132 (by decide)
    have h187_133 := u133.v 187 h187_132 (by decide)
    have h188_133 := u133.v 188 h188_132 (by decide)
    have h189_133 := u133.v 189 h189_132 (by decide)
    clear h1_132 h2_132 h6_132 h169_132 h170_132 h171_132 h172_132 h173_132 h174_132 h175_132 h176_132 h177_132 h178_132 h180_132 h181_132 h179_132 h182_132 h183_132 h184_132 h185_132 h186_132 h187_132 h188_132 h189_132 u133 F132
    obtain ⟨w18, hr18, Bp_18, G18⟩ := st_run (T := 68) (o := 22) (v := (pto mp)) (cs' := #[(.float .f64 (fn (tmax T segs))), (.int .u64 seq), (.slice (some ⟨gg, 0, none⟩) cap cap), (.string { data := #[] }), (.bool ifr), (.bool clo), (.int .u64 ty), (.int .u64 dsq), (.float .f64 (fb st)), (.bool pre), (.bool false), (.int .i64 0), (.int .u64 win), (.int .u64 cap), (.int .u64 0), (.int .u64 ((segs.length % cap) : Nat)), (.int .u64 (segs.length : Nat)), (.slice none 0 0), (.int .i64 0), (.int .i8 0), (.int .u8 3), (pto kp), (pto mp)]) (fun _ => by kernel_rfl) Bp_17 rfl (by simp) rfl
    have Bm_18 := Bm_17.gk G18 ne_m_p
    have Bg_18 := Bg_17.gk G18 hgp
    have Kp18 := Kp17.set G18 (Or.inr lo_p)
    have sg_18 := sg_17.gs Bp_17 G18
    have kk_18 := kk_17.gs Bp_17 G18
    have mm_18 := mm_17.gs Bp_17 G18
    refine mt_n (ex_st h190_133 h182_133 hr18) (Bm_18) ?_
    clear Bm_17 Bg_17 Kp17 sg_17 kk_17 mm_17 Bp_17 hr18 G18
    change Code.wp _ _ _ _ _
    refine wp_seq ?_
    refine rg_list ?_
    refine wl_p (ex_mv (v := (.pointer (some ⟨gp, 0, none⟩))) h6_133) (by rw [F133.size]; decide) fun a134 u134 (h191_134 : a134.tmps.getD 191 undef = (.pointer (some ⟨gp, 0, none⟩))) => ?_
    have F134 := F133.pt u134
    have h1_134 := u134.v 1 h1_133 (by decide)
    have h2_134 := u134.v 2 h2_133 (by decide)
    have h6_134 := u134.v 6 h6_133 (by decide)
    clear h1_133 h2_133 h6_133 h169_133 h170_133 h171_133 h172_133 h173_133 h174_133 h175_133 h176_133 h177_133 h178_133 h180_133 h181_133 h179_133 h182_133 h183_133 h184_133 h185_133 h186_133 h187_133 h188_133 h189_133 h190_133 u134 F133
    refine wl_p (ex_mv (v := (.bool wh)) h1_134) (by rw [F134.size]; decide) fun a135 u135 (h192_135 : a135.tmps.getD 192 undef = (.bool wh)) => ?_
    have F135 := F134.pt u135
    have h1_135 := u135.v 1 h1_134 (by decide)
    have h2_135 := u135.v 2 h2_134 (by decide)
    have h6_135 := u135.v 6 h6_134 (by decide)
    have h191_135 := u135.v 191 h191_134 (by decide)
    clear h1_134 h2_134 h6_134 h191_134 u135 F134
    refine wl_cl (args := #[(.pointer (some ⟨gp, 0, none⟩)), (.bool wh)]) (R := fun v w' => v = (.tuple #[]) ∧ (Blk w' gp 70 #[(.float .f64 (fn (tmax T segs))), (.int .u64 seq), (.slice (some ⟨gg, 0, none⟩) cap cap), (.string { data := #[] }), (.bool ifr), (.bool clo), (.int .u64 ty), (.int .u64 dsq), (.float .f64 (fb st)), (.bool pre), (.bool wh), (.int .i64 0), (.int .u64 win), (.int .u64 cap), (.int .u64 0), (.int .u64 ((segs.length % cap) : Nat)), (.int .u64 (segs.length : Nat)), (.slice none 0 0), (.int .i64 0), (.int .i8 0), (.int .u8 3), (pto kp), (pto mp)] ∧ w18.grownBy w' (some gp))) (ex_cl (fun _ _ => by kernel_rfl) (arg2 h191_135 h192_135)) ((asint_any wh Bp_18).mono fun _ _ h => ⟨_, h.1, rfl, h.2⟩) (by rw [F135.size]; decide) ?_
    rintro v w19 ⟨rfl, Bp_19, G19⟩
    have Bm_19 := Bm_18.gk G19 ne_m_p
    have Bg_19 := Bg_18.gk G19 hgp
    have Kp19 := Kp18.set G19 (Or.inr lo_p)
    have sg_19 := sg_18.gs Bp_18 G19
    have kk_19 := kk_18.gs Bp_18 G19
    have mm_19 := mm_18.gs Bp_18 G19
    intro a136 u136 h193_136
    have F136 := F135.pt u136
    have h1_136 := u136.v 1 h1_135 (by decide)
    have h2_136 := u136.v 2 h2_135 (by decide)
    have h6_136 := u136.v 6 h6_135 (by decide)
    clear h1_135 h2_135 h6_135 h191_135 h192_135 u136 F135
    clear Bm_18 Bg_18 Kp18 sg_18 kk_18 mm_18 Bp_18
    change Code.wp _ _ _ _ _
    refine wp_seq ?_
    refine rg_list ?_
    refine wl_p (ex_mv (v := (.pointer (some ⟨gp, 0, none⟩))) h6_136) (by rw [F136.size]; decide) fun a137 u137 (h194_137 : a137.tmps.getD 194 undef = (.pointer (some ⟨gp, 0, none⟩))) => ?_
    have F137 := F136.pt u137
    have h1_137 := u137.v 1 h1_136 (by decide)
    have h2_137 := u137.v 2 h2_136 (by decide)
    have h6_137 := u137.v 6 h6_136 (by decide)
    clear h1_136 h2_136 h6_136 h193_136 u137 F136
    refine wl_p (ex_fa (T := 36) (f := 10) (k := 10) (b := gm) (fun _ _ => by kernel_rfl) h2_137) (by rw [F137.size]; decide) fun a138 u138 (h195_138 : a138.tmps.getD 195 undef = (.pointer (some ⟨gm, 10, none⟩))) => ?_
    have F138 := F137.pt u138
    have h1_138 := u138.v 1 h1_137 (by decide)
    have h2_138 := u138.v 2 h2_137 (by decide)
    have h6_138 := u138.v 6 h6_137 (by decide)
    have h194_138 := u138.v 194 h194_137 (by decide)
    clear h1_137 h2_137 h6_137 h194_137 u138 F137
    refine wl_p (ex_ld (v := (.int .i64 ver)) (ad := ⟨gm, 10, none⟩) (fun _ => by kernel_rfl) h195_138 (Bm_19.cell 10)) (by rw [F138.size]; decide) fun a139 u139 (h196_139 : a139.tmps.getD 196 undef = (.int .i64 ver)) => ?_
    have F139 := F138.pt u139
    have h1_139 := u139.v 1 h1_138 (by decide)
    have h2_139 := u139.v 2 h2_138 (by decide)
    have h6_139 := u139.v 6 h6_138 (by decide)
    have h194_139 := u139.v 194 h194_138 (by decide)
    clear h1_138 h2_138 h6_138 h194_138 h195_138 u139 F138
    refine wl_p (ex_conv (vx := (.int .i64 ver)) (v := (.int .u8 ver)) h196_139 (cv_iu8 _ (by omega) _)) (by rw [F139.size]; decide) fun a140 u140 (h197_140 : a140.tmps.getD 197 undef = (.int .u8 ver)) => ?_
    have F140 := F139.pt u140
    have h1_140 := u140.v 1 h1_139 (by decide)
    have h2_140 := u140.v 2 h2_139 (by decide)
    have h6_140 := u140.v 6 h6_139 (by decide)
    have h194_140 := u140.v 194 h194_139 (by decide)
    clear h1_139 h2_139 h6_139 h194_139 h196_139 u140 F139
    refine wl_cl (args := #[(.pointer (some ⟨gp, 0, none⟩)), (.int .u8 ver)]) (R := fun v w' => v = (.tuple #[]) ∧ (Blk w' gp 70 #[(.float .f64 (fn (tmax T segs))), (.int .u64 seq), (.slice (some ⟨gg, 0, none⟩) cap cap), (.string { data := #[] }), (.bool ifr), (.bool clo), (.int .u64 ty), (.int .u64 dsq), (.float .f64 (fb st)), (.bool pre), (.bool wh), (.int .i64 0), (.int .u64 win), (.int .u64 cap), (.int .u64 0), (.int .u64 ((segs.length % cap) : Nat)), (.int .u64 (segs.length : Nat)), (.slice none 0 0), (.int .i64 0), (.int .i8 0), (.int .u8 ver), (pto kp), (pto mp)] ∧ w19.grownBy w' (some gp))) (ex_cl (fun _ _ => by kernel_rfl) (arg2 h194_140 h197_140)) ((setver Bp_19).mono fun _ _ h => ⟨_, h.1, rfl, h.2⟩) (by rw [F140.size]; decide) ?_
    rintro v w20 ⟨rfl, Bp_20, G20⟩
    have Bm_20 := Bm_19.gk G20 ne_m_p
    have Bg_20 := Bg_19.gk G20 hgp
    have Kp20 := Kp19.set G20 (Or.inr lo_p)
    have sg_20 := sg_19.gs Bp_19 G20
    have kk_20 := kk_19.gs Bp_19 G20
    have mm_20 := mm_19.gs Bp_19 G20
    intro a141 u141 h198_141
    have F141 := F140.pt u141
    have h1_141 := u141.v 1 h1_140 (by decide)
    have h2_141 := u141.v 2 h2_140 (by decide)
    have h6_141 := u141.v 6 h6_140 (by decide)
    clear h1_140 h2_140 h6_140 h194_140 h197_140 u141 F140
    clear Bm_19 Bg_19 Kp19 sg_19 kk_19 mm_19 Bp_19
    change Code.wp _ _ _ _ _
    refine wp_seq ?_
    refine rg_list ?_
    refine wl_p (ex_mv (v := (.pointer (some ⟨gp, 0, none⟩))) h6_141) (by rw [F141.size]; decide) fun a142 u142 (h199_142 : a142.tmps.getD 199 undef = (.pointer (some ⟨gp, 0, none⟩))) => ?_
    have F142 := F141.pt u142
    have h1_142 := u142.v 1 h1_141 (by decide)
    have h2_142 := u142.v 2 h2_141 (by decide)
    have h6_142 := u142.v 6 h6_141 (by decide)
    clear h1_141 h2_141 h6_141 h198_141 u142 F141
    refine wl_cl (args := #[(.pointer (some ⟨gp, 0, none⟩))]) (R := fun v w' => v = (.string (bs (encT ⟨tmax T segs, seq, gg, ifr, clo, ty, dsq, st, pre, wh, win, cap, segs.length % cap, segs.length, ver, kp, mp⟩ key map segs))) ∧ (Below w0.heap.size w20 w')) (ex_cl (fun _ _ => by kernel_rfl) (arg1 h199_142)) ((string_any (B := w0.heap.size) (d := ⟨tmax T segs, seq, gg, ifr, clo, ty, dsq, st, pre, wh, win, cap, segs.length % cap, segs.length, ver, kp, mp⟩) (key := key) (map := map) (segs := segs) (ptrs := arr) ⟨by dsimp only; omega, by dsimp only; omega, by dsimp only; omega, by dsimp only; omega, by dsimp only; omega, by dsimp only; omega, hff⟩ Bp_20 (kk_20.inn Bp_20) (mm_20.inn Bp_20) Bg_20 rfl (by dsimp only; omega) (by dsimp only; omega) (sg_20.inn Bp_20 hok hhi) (htab.keep (Kp20.block _ hgt (by simp))) hgt lo_p).mono fun _ _ h => ⟨_, h.1, rfl, h.2⟩) (by rw [F142.size]; decide) ?_
    rintro v w21 ⟨rfl, hBel⟩
    intro a143 u143 h200_143
    have F143 := F142.pt u143
    have h1_143 := u143.v 1 h1_142 (by decide)
    have h2_143 := u143.v 2 h2_142 (by decide)
    have h6_143 := u143.v 6 h6_142 (by decide)
    clear h1_142 h2_142 h6_142 h199_142 u143 F142
    refine wl_p (ex_as (v := (.string (bs (encT ⟨tmax T segs, seq, gg, ifr, clo, ty, dsq, st, pre, wh, win, cap, segs.length % cap, segs.length, ver, kp, mp⟩ key map segs)))) h200_143) (by rw [F143.size]; decide) fun a144 u144 (h4_144 : a144.tmps.getD 4 undef = (.string (bs (encT ⟨tmax T segs, seq, gg, ifr, clo, ty, dsq, st, pre, wh, win, cap, segs.length % cap, segs.length, ver, kp, mp⟩ key map segs)))) => ?_
    have F144 := F143.pt u144
    have h1_144 := u144.v 1 h1_143 (by decide)
    have h2_144 := u144.v 2 h2_143 (by decide)
    have h6_144 := u144.v 6 h6_143 (by decide)
    clear h1_143 h2_143 h6_143 h200_143 u144 F143
    refine wl_p (ex_as (v := (.bool true)) rfl) (by rw [F144.size]; decide) fun a145 u145 (h5_145 : a145.tmps.getD 5 undef = (.bool true)) => ?_
    have F145 := F144.pt u145
    have h1_145 := u145.v 1 h1_144 (by decide)
    have h2_145 := u145.v 2 h2_144 (by decide)
    have h6_145 := u145.v 6 h6_144 (by decide)
    have h4_145 := u145.v 4 h4_144 (by decide)
    clear h1_144 h2_144 h6_144 h4_144 u145 F144
    change Code.wp _ _ _ _ _
    refine wp_ret ?_
    try simp only [Exit.then, Exit.inBlock]
    exact bodyPost_ret (v := .tuple #[(.string (bs (encT ⟨tmax T segs, seq, gg, ifr, clo, ty, dsq, st, pre, wh, win, cap, segs.length % cap, segs.length, ver, kp, mp⟩ key map segs))), (.bool true)]) ((results_tmp2 rfl _ _ _).trans (by rw [h4_145, h5_145])) F145.defers ⟨gg, kp, mp, mm_20.none_, rfl, Kp20.below.trans hBel⟩
end Go.Proofs.YtlphcidpaidclaaGreatDoor
