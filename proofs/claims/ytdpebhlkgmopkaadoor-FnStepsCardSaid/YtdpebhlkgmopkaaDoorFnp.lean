/-
 FnSteps: the law behind its loop.
-/
import Derived.Test.YtdpebhlkgmopkaaDoorFnc
namespace Go.Proofs.YtdpebhlkgmopkaaDoor
open Go.RowKit
set_option maxRecDepth 100000
set_option maxHeartbeats 800000 in
theorem fs_tail {len p wr wb : Nat} {d0 : WinD} {xs : List StepD} {wv : Value} {sv : Value} {w0 w1 : World} {a1 : Act} (hw : w0.heap.size ≤ w0.heap.size) (hO0 : d0.Ok 0) (hl : len ≤ 60) (hxs : ∀ x ∈ xs, x.Ok) (hxl : xs.length = len) (hp1 : 1 ≤ p) (hp12 : p ≤ 12) (hwrp : wr ≤ p) (hd0 : (⟨p, wr, 3, 0, 0, false, false, none, none, [], []⟩ : WinD) = d0) (hev : EV w0) (hlo : 0 < w0.heap.size) (F1 : Fz 358 a1) (h7_1 : a1.tmps.getD 7 undef = .int .i64 p) (h8_1 : a1.tmps.getD 8 undef = .int .i64 wr) (h9_1 : a1.tmps.getD 9 undef = pt wb) (h10_1 : a1.tmps.getD 10 undef = sv) (h11_1 : a1.tmps.getD 11 undef = wv) (K_1 : Kt w0.heap.size DL w0 w1) (H_1 : WinS w1 w0.heap.size wb (d0.execs xs)) (sr_1 : STR w1 w0.heap.size sv xs) (wr_1 : GR w1 w0.heap.size 4 Value.bool wv (d0.tolds xs)) : (cat [1, 1, 1, 1, 1, 1, 1, 1] fsB).wp Tryd.prog (fun e a w => bodyPost Tryd.prog Tryd.f3 (fun e w' => e = .returned (.bool true) ∧ Below w0.heap.size w0 w') e a w) a1 w1 := by
 have hx_1 := hxs
 have hn_1 := hxl
 change Code.wp _ (Code.seq _ _) _ _ _
 refine wp_sr ?_
 refine wl_pq F1 (ex_mv h8_1) fun a2 u2 F2 h214_2 => ?_
 refine wl_pq F2 (ex_mv (u2.w h7_1)) fun a3 u3 F3 h215_3 => ?_
 refine wl_pq F3 (ex_mv (u3.w (u2.w h10_1))) fun a4 u4 F4 h216_4 => ?_
 have hxs := hx_1
 have hxl := hn_1
 have hOx := hO0.execs xs hxs
 have hTL : (d0.tolds xs).length ≤ 60 := by rw [WinD.tolds_length]; omega
 have hSL : (d0.execs xs).segs.length ≤ 12 := Nat.le_trans hOx.room hOx.p12
 have hst := (steps_any hp1 hp12 hwrp sr_1 hxs (by omega) (hev.below K_1.bel hlo) (Nat.lt_of_lt_of_le hlo K_1.bel.size))
 rw [hd0] at hst
 refine wl_cl (args := #[(.int .i64 wr), (.int .i64 p), sv]) (R := fun v w' => ∃ tv iv kv mv uv bb bi, v = .tuple #[tv, .agg (medC (d0.execs xs) iv kv mv), uv, .bool true] ∧ GR w' bb 4 Value.bool tv (d0.tolds xs) ∧ ISR w' bi iv ((d0.execs xs).nums.zip (d0.execs xs).segs) ∧ KeySl w' kv (d0.execs xs).key ∧ MapSl w' mv (d0.execs xs).map ∧ Below w1.heap.size w1 w') (ex_cl (fun _ _ => by kernel_rfl) (arg3 (u4.w (u3.w h214_2)) (u4.w h215_3) h216_4)) ((hst).mono fun _ _ ⟨tv, iv, kv, mv, uv, bi, h, h1, r⟩ => ⟨_, h, tv, iv, kv, mv, uv, _, bi, rfl, h1, r⟩) F4.l ?_
 rintro v w2 ⟨tv, iv, kv, mv, uv, bb, bi, rfl, tv_2, is_2, sk_2, sm_2, QB⟩
 obtain ⟨iva, ivn, ivc, rfl⟩ := is_2.shape
 obtain ⟨kva, kvn, kvc, rfl⟩ := sk_2.shape
 obtain ⟨mva, mvn, mvc, rfl⟩ := sm_2.shape
 have Q_2 := below_tr K_1.bel hw QB
 have H_2 := H_1.bl QB
 have wr_2 := wr_1.bl QB
 intro a5 u5 h217_5
 have F5 := F4.pt u5
 clear K_1 H_1 wr_1 sr_1 QB
 refine wl_pq F5 (ex_mv h217_5) fun a6 u6 F6 h213_6 => ?_
 refine wl_pq F6 (ex_ext (vs := #[tv, (.agg #[(.float .f64 (fn (d0.execs xs).tgt)), (.int .u64 (d0.execs xs).seq), (.slice iva ivn ivc), (.string { data := #[] }), (.bool (d0.execs xs).ifr), (.bool (d0.execs xs).clo), (.int .i64 0), (.int .u64 0), (.float .f64 0), (.bool false), (.int .i64 (d0.execs xs).ver), (.slice kva kvn kvc), (.slice mva mvn mvc), (.int .i64 (d0.execs xs).written)]), uv, (.bool true)]) (v := tv) h213_6 rfl) fun a7 u7 F7 h218_7 => ?_
 refine wl_pq F7 (ex_ext (vs := #[tv, (.agg #[(.float .f64 (fn (d0.execs xs).tgt)), (.int .u64 (d0.execs xs).seq), (.slice iva ivn ivc), (.string { data := #[] }), (.bool (d0.execs xs).ifr), (.bool (d0.execs xs).clo), (.int .i64 0), (.int .u64 0), (.float .f64 0), (.bool false), (.int .i64 (d0.execs xs).ver), (.slice kva kvn kvc), (.slice mva mvn mvc), (.int .i64 (d0.execs xs).written)]), uv, (.bool true)]) (v := (.agg #[(.float .f64 (fn (d0.execs xs).tgt)), (.int .u64 (d0.execs xs).seq), (.slice iva ivn ivc), (.string { data := #[] }), (.bool (d0.execs xs).ifr), (.bool (d0.execs xs).clo), (.int .i64 0), (.int .u64 0), (.float .f64 0), (.bool false), (.int .i64 (d0.execs xs).ver), (.slice kva kvn kvc), (.slice mva mvn mvc), (.int .i64 (d0.execs xs).written)])) (u7.w h213_6) rfl) fun a8 u8 F8 h219_8 => ?_
 refine wl_pq F8 (ex_ext (vs := #[tv, (.agg #[(.float .f64 (fn (d0.execs xs).tgt)), (.int .u64 (d0.execs xs).seq), (.slice iva ivn ivc), (.string { data := #[] }), (.bool (d0.execs xs).ifr), (.bool (d0.execs xs).clo), (.int .i64 0), (.int .u64 0), (.float .f64 0), (.bool false), (.int .i64 (d0.execs xs).ver), (.slice kva kvn kvc), (.slice mva mvn mvc), (.int .i64 (d0.execs xs).written)]), uv, (.bool true)]) (v := uv) (u8.w (u7.w h213_6)) rfl) fun a9 u9 F9 h220_9 => ?_
 have h213_9 := u9.w (u8.w (u7.w h213_6))
 refine wl_pq F9 (ex_ext (vs := #[tv, (.agg #[(.float .f64 (fn (d0.execs xs).tgt)), (.int .u64 (d0.execs xs).seq), (.slice iva ivn ivc), (.string { data := #[] }), (.bool (d0.execs xs).ifr), (.bool (d0.execs xs).clo), (.int .i64 0), (.int .u64 0), (.float .f64 0), (.bool false), (.int .i64 (d0.execs xs).ver), (.slice kva kvn kvc), (.slice mva mvn mvc), (.int .i64 (d0.execs xs).written)]), uv, (.bool true)]) (v := (.bool true)) h213_9 rfl) fun a10 u10 F10 h221_10 => ?_
 obtain ⟨g22, hg22⟩ : ∃ g, w2.heap.size = g := ⟨_, rfl⟩
 have gq22 : w0.heap.size ≤ g22 := by have := Q_2.size; omega
 obtain ⟨w3, hr3, B22_3, G3, hs3⟩ := al_run (op := Instr.alloc 67 true (.tuple #[])) (T := 67) (cs := #[(.float .f64 0), (.int .u64 0), (.slice none 0 0), (.string { data := #[] }), (.bool false), (.bool false), (.int .i64 0), (.int .u64 0), (.float .f64 0), (.bool false), (.int .i64 0), (.slice none 0 0), (.slice none 0 0), (.int .i64 0)]) hg22 (fun _ => by kernel_rfl)
 have Q_3 := below_gn Q_2 hw G3
 have H_3 := H_2.kt (Kt.of_none G3) (by decide)
 have wr_3 := wr_2.kt (Kt.of_none G3) (by decide)
 have tv_3 := tv_2.kt (Kt.of_none G3) (by decide)
 have is_3 := is_2.kt (Kt.of_none G3) (by decide) (by decide) (by decide)
 have sk_3 := sk_2.kt (Kt.of_none G3) (by decide)
 have sm_3 := sm_2.kt (Kt.of_none G3) (by decide)
 refine wl_pq F10 (ex_al hr3) fun a11 u11 F11 (h22_11 : a11.tmps.getD 22 undef = (.pointer (some ⟨g22, 0, none⟩))) => ?_
 clear Q_2 H_2 wr_2 tv_2 is_2
 have h218_11 := u11.w (u10.w (u9.w (u8.w h218_7)))
 refine wl_pq F11 (ex_as h218_11) fun a12 u12 F12 h21_12 => ?_
 obtain ⟨w4, hr4, B22_4, G4⟩ := sta_run (T := 67) (cs := #[(.float .f64 (fn (d0.execs xs).tgt)), (.int .u64 (d0.execs xs).seq), (.slice iva ivn ivc), (.string { data := #[] }), (.bool (d0.execs xs).ifr), (.bool (d0.execs xs).clo), (.int .i64 0), (.int .u64 0), (.float .f64 0), (.bool false), (.int .i64 (d0.execs xs).ver), (.slice kva kvn kvc), (.slice mva mvn mvc), (.int .i64 (d0.execs xs).written)]) (fun _ => by kernel_rfl) B22_3 rfl rfl (by simp [Value.oneCell'])
 have Q_4 := below_st Q_3 hw gq22 G4
 have H_4 := H_3.kt (Kt.of_blk B22_3 G4) (by decide)
 have wr_4 := wr_3.kt (Kt.of_blk B22_3 G4) (by decide)
 have tv_4 := tv_3.kt (Kt.of_blk B22_3 G4) (by decide)
 have is_4 := is_3.kt (Kt.of_blk B22_3 G4) (by decide) (by decide) (by decide)
 have sk_4 := sk_3.kt (Kt.of_blk B22_3 G4) (by decide)
 have sm_4 := sm_3.kt (Kt.of_blk B22_3 G4) (by decide)
 have h219_12 := u12.w (u11.w (u10.w (u9.w h219_8)))
 refine wl_n (ex_st (u12.w h22_11) h219_12 hr4) ?_
 clear Q_3 H_3 wr_3 tv_3 is_3
 have h220_12 := u12.w (u11.w (u10.w h220_9))
 refine wl_pq F12 (ex_as h220_12) fun a13 u13 F13 h23_13 => ?_
 have h221_13 := u13.w (u12.w (u11.w h221_10))
 refine wl_pq F13 (ex_as h221_13) fun a14 u14 F14 h24_14 => ?_
 change Code.wp _ _ _ _ _
 refine wp_seq ?_
 refine wp_seq ?_
 obtain ⟨⟨kpw, mpw, swv, nwv, Bw_4, kw_4, mw_4, sw_4, nw_4⟩, hwb, hbw⟩ := H_4
 obtain ⟨w5, hw5⟩ : ∃ w, w = w4.drew := ⟨_, rfl⟩
 have G5 : w4.grownBy w5 none := hw5 ▸ grown_drew _
 have B22_5 := B22_4.gn G5
 have Bw_5 := Bw_4.gn G5
 have Q_5 := below_gn Q_4 hw G5
 have wr_5 := wr_4.kt (Kt.of_none G5) (by decide)
 have tv_5 := tv_4.kt (Kt.of_none G5) (by decide)
 have is_5 := is_4.kt (Kt.of_none G5) (by decide) (by decide) (by decide)
 have sk_5 := sk_4.kt (Kt.of_none G5) (by decide)
 have sm_5 := sm_4.kt (Kt.of_none G5) (by decide)
 have kw_5 := kw_4.kt (Kt.of_none G5) (by decide)
 have mw_5 := mw_4.kt (Kt.of_none G5) (by decide)
 have sw_5 := sw_4.kt (Kt.of_none G5) (by decide) (by decide) (by decide)
 have nw_5 := nw_4.kt (Kt.of_none G5) (by decide)
 refine rg_tree (S := fun w' => Blk w' g22 67 #[(.float .f64 (fn (d0.execs xs).tgt)), (.int .u64 (d0.execs xs).seq), (.slice iva ivn ivc), (.string { data := #[] }), (.bool (d0.execs xs).ifr), (.bool (d0.execs xs).clo), (.int .i64 0), (.int .u64 0), (.float .f64 0), (.bool false), (.int .i64 (d0.execs xs).ver), (.slice kva kvn kvc), (.slice mva mvn mvc), (.int .i64 (d0.execs xs).written)] ∧ Blk w' wb 51 #[(.int .i64 (d0.execs xs).places), (.int .i64 (d0.execs xs).written), (.int .i64 (d0.execs xs).ver), (.int .u64 (d0.execs xs).seq), (.int .i64 (d0.execs xs).tgt), (.bool (d0.execs xs).clo), (.bool (d0.execs xs).ifr), (pto kpw), (pto mpw), swv, nwv]) [] 95 hw5 ⟨rfl, by decide⟩ hmix (by kernel_rfl) (by kernel_rfl) (⟨B22_5, Bw_5⟩) ?_
 clear Q_4 wr_4 tv_4 is_4 kw_4 mw_4 sw_4 nw_4
 have h9_14 := u14.w (u13.w (u12.w (u11.w (u10.w (u9.w (u8.w (u7.w (u6.w (u5.w (u4.w (u3.w (u2.w h9_1))))))))))))
 have h11_14 := u14.w (u13.w (u12.w (u11.w (u10.w (u9.w (u8.w (u7.w (u6.w (u5.w (u4.w (u3.w (u2.w h11_1))))))))))))
 have h22_14 := u14.w (u13.w (u12.w h22_11))
 refine tree_q0 (ops2 := r59) (l2 := Lk 0) rfl rfl (fs_cmp (len := len) hw hOx F14 h9_14 h11_14 (u14.w (u13.w h21_12)) h22_14 h24_14 B22_5 Bw_5 Q_5 wr_5 tv_5 is_5 sk_5 sm_5 kw_5 mw_5 sw_5 nw_5 fun a15 w6 F15 h9_15 h11_15 h21_15 h22_15 h316_15 B22_6 Bw_6 Q_6 wr_6 tv_6 is_6 sk_6 sm_6 kw_6 mw_6 sw_6 nw_6 => ?_)
 clear Q_5 wr_5 tv_5 is_5 kw_5 mw_5 sw_5 nw_5
 have H_6 : WinS w6 w0.heap.size wb (d0.execs xs) := ⟨⟨kpw, mpw, swv, nwv, Bw_6, kw_6, mw_6, sw_6, nw_6⟩, hwb, Q_6.size⟩
 clear kw_6 mw_6 sw_6 nw_6
 change Code.wp _ _ _ _ _
 refine wp_cond_false h316_15 ?_
 refine wp_skip ?_
 change Code.wp _ _ _ _ _
 exact fs_tail2 (p := p) (wr := wr) hw hO0 hl hxs hxl F15 h9_15 h11_15 h21_15 h22_15 Q_6 H_6 wr_6 tv_6 is_6 B22_6
end Go.Proofs.YtdpebhlkgmopkaaDoor
