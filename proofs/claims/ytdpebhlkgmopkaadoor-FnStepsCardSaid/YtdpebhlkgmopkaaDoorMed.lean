/-
 FnSteps: the playlist read as data.
-/
import Derived.Test.YtdpebhlkgmopkaaDoorRws
namespace Go.Proofs.YtdpebhlkgmopkaaDoor
open Go.RowKit
set_option maxRecDepth 100000
theorem keyof_nil {w0 : World} : Calls Tryd.prog 51 #[.pointer none] w0 fun e w' => e = .returned (.slice none 0 0) ∧ w0 = w' := by
 refine calls_of_wp Tryd.func51 rfl ?_
 generalize hA : Act.mk _ _ = a0
 have F0 : Fz 27 a0 := by subst hA; exact ⟨by simp [Tryd.ntmps51], rfl⟩
 have h0_0 : a0.tmps.getD 0 undef = (.pointer none) := by subst hA; exact fr_arg rfl
 refine wp_sr ?_
 refine wl_pq F0 (ex_as (v := (.slice none 0 0)) rfl) fun a1 u1 F1 h2_1 => ?_
 change Code.wp _ _ _ _ _
 refine wp_seq ?_
 refine wp_sr ?_
 refine wl_pq F1 (ex_mv (u1.w h0_0)) fun a2 u2 F2 h3_2 => ?_
 refine wl_pq F2 (ex_bin (vy := (.pointer none)) (v := (.bool true)) h3_2 rfl (by kernel_rfl)) fun a3 u3 F3 h4_3 => ?_
 change Code.wp _ _ _ _ _
 refine wp_cond_true h4_3 ?_
 refine wp_sr ?_
 refine wl_pq F3 (ex_as (v := (.slice none 0 0)) rfl) fun a4 u4 F4 h2_4 => ?_
 change Code.wp _ _ _ _ _
 refine wp_ret ?_
 try simp only [Exit.then, Exit.inBlock]
 exact bodyPost_ret (v := (.slice none 0 0)) ((results_tmp rfl _ _ _).trans (by rw [h2_4])) F4.defers ⟨rfl, rfl⟩
theorem keyof_some {p : Nat} {q : KeyD} {w0 : World} (Bk_0 : Blk w0 p 113 #[(.string q.me), (.string q.uri), (.string q.iv), (.string q.fo), (.string q.ve)]) (hok : q.Ok) : Calls Tryd.prog 51 #[pt p] w0 fun e w' => ∃ kv, e = .returned kv ∧ KeySl w' kv (some q) ∧ w0.grownBy w' none := by
 refine calls_of_wp Tryd.func51 rfl ?_
 generalize hA : Act.mk _ _ = a0
 have F0 : Fz 27 a0 := by subst hA; exact ⟨by simp [Tryd.ntmps51], rfl⟩
 have h0_0 : a0.tmps.getD 0 undef = (.pointer (some ⟨p, 0, none⟩)) := by subst hA; exact fr_arg rfl
 have Q_0 := grown_refl w0 none
 refine wp_sr ?_
 refine wl_pq F0 (ex_as (v := (.slice none 0 0)) rfl) fun a1 u1 F1 h2_1 => ?_
 change Code.wp _ _ _ _ _
 refine wp_seq ?_
 refine wp_sr ?_
 refine wl_pq F1 (ex_mv (u1.w h0_0)) fun a2 u2 F2 h3_2 => ?_
 refine wl_pq F2 (ex_bin (vy := (.pointer none)) (v := (.bool false)) h3_2 rfl (by kernel_rfl)) fun a3 u3 F3 h4_3 => ?_
 change Code.wp _ _ _ _ _
 refine wp_cond_false h4_3 ?_
 refine wp_skip ?_
 change Code.wp _ _ _ _ _
 refine wp_seq ?_
 obtain ⟨w1, hw1⟩ : ∃ w, w = w0.drew := ⟨_, rfl⟩
 have G1 : w0.grownBy w1 none := hw1 ▸ grown_drew _
 have Bk_1 := Bk_0.gn G1
 have Q_1 := grown_trans Q_0 G1
 refine rg_stillt 21 hw1 hmix (by kernel_rfl) ?_
 clear Q_0
 have h0_3 := u3.w (u2.w (u1.w h0_0))
 refine st_pq F3 (ex_mv h0_3) fun a4 u4 F4 h5_4 => ?_
 refine st_pq F4 (ex_nil h5_4) fun a5 u5 F5 h6_5 => ?_
 refine st_pq F5 (ex_fb 0 h6_5) fun a6 u6 F6 h7_6 => ?_
 refine st_pq F6 (ex_le (v := (.string q.me)) h7_6 (Bk_1.cell 0)) fun a7 u7 F7 h8_7 => ?_
 have h0_7 := u7.w (u6.w (u5.w (u4.w h0_3)))
 refine st_pq F7 (ex_mv h0_7) fun a8 u8 F8 h9_8 => ?_
 refine st_pq F8 (ex_nil h9_8) fun a9 u9 F9 h10_9 => ?_
 refine st_pq F9 (ex_fb 1 h10_9) fun a10 u10 F10 h11_10 => ?_
 refine st_pq F10 (ex_le (v := (.string q.uri)) h11_10 (Bk_1.cell 1)) fun a11 u11 F11 h12_11 => ?_
 have h0_11 := u11.w (u10.w (u9.w (u8.w h0_7)))
 refine st_pq F11 (ex_mv h0_11) fun a12 u12 F12 h13_12 => ?_
 refine st_pq F12 (ex_nil h13_12) fun a13 u13 F13 h14_13 => ?_
 refine st_pq F13 (ex_fb 2 h14_13) fun a14 u14 F14 h15_14 => ?_
 refine st_pq F14 (ex_le (v := (.string q.iv)) h15_14 (Bk_1.cell 2)) fun a15 u15 F15 h16_15 => ?_
 have h0_15 := u15.w (u14.w (u13.w (u12.w h0_11)))
 refine st_pq F15 (ex_mv h0_15) fun a16 u16 F16 h17_16 => ?_
 refine st_pq F16 (ex_nil h17_16) fun a17 u17 F17 h18_17 => ?_
 refine st_pq F17 (ex_fb 3 h18_17) fun a18 u18 F18 h19_18 => ?_
 refine st_pq F18 (ex_le (v := (.string q.fo)) h19_18 (Bk_1.cell 3)) fun a19 u19 F19 h20_19 => ?_
 have h0_19 := u19.w (u18.w (u17.w (u16.w h0_15)))
 refine st_pq F19 (ex_mv h0_19) fun a20 u20 F20 h21_20 => ?_
 refine st_pq F20 (ex_nil h21_20) fun a21 u21 F21 h22_21 => ?_
 refine st_pq F21 (ex_fb 4 h22_21) fun a22 u22 F22 h23_22 => ?_
 refine st_pq F22 (ex_le (v := (.string q.ve)) h23_22 (Bk_1.cell 4)) fun a23 u23 F23 h24_23 => ?_
 have h8_23 := u23.w (u22.w (u21.w (u20.w (u19.w (u18.w (u17.w (u16.w (u15.w (u14.w (u13.w (u12.w (u11.w (u10.w (u9.w (u8.w h8_7)))))))))))))))
 have h12_23 := u23.w (u22.w (u21.w (u20.w (u19.w (u18.w (u17.w (u16.w (u15.w (u14.w (u13.w (u12.w h12_11)))))))))))
 have h16_23 := u23.w (u22.w (u21.w (u20.w (u19.w (u18.w (u17.w (u16.w h16_15)))))))
 have h20_23 := u23.w (u22.w (u21.w (u20.w h20_19)))
 refine st_pq F23 (ex_bd (w' := w1) (vs :=  #[(0, (.string q.me)), (1, (.string q.uri)), (2, (.string q.iv)), (3, (.string q.fo)), (4, (.string q.ve))]) (v := (.agg #[(.string q.me), (.string q.uri), (.string q.iv), (.string q.fo), (.string q.ve)])) (by have e0 : a23.eval (.tmp 8) = (.string q.me) := h8_23; have e1 : a23.eval (.tmp 12) = (.string q.uri) := h12_23; have e2 : a23.eval (.tmp 16) = (.string q.iv) := h16_23; have e3 : a23.eval (.tmp 20) = (.string q.fo) := h20_23; have e4 : a23.eval (.tmp 24) = (.string q.ve) := h24_23; simp only [List.map_toArray, List.map_cons, List.map_nil, e0, e1, e2, e3, e4]) (by kernel_rfl)) fun a24 u24 F24 h25_24 => ?_
 obtain ⟨gx, hgx⟩ : ∃ g, w1.heap.size = g := ⟨_, rfl⟩
 have ne_k_x : p ≠ gx := by have := Bk_1.lt; omega
 obtain ⟨w2, hr2, Bx_2, G2, hs2⟩ := bs_run (op := Instr.buildSlice 36 1 #[(0, (.agg #[(.string q.me), (.string q.uri), (.string q.iv), (.string q.fo), (.string q.ve)]))]) (n := 1) (T := 78) (cs := #[(.string q.me), (.string q.uri), (.string q.iv), (.string q.fo), (.string q.ve)]) hgx (fun _ => by kernel_rfl)
 have Bk_2 := Bk_1.gn G2
 have Q_2 := grown_trans Q_1 G2
 refine wl_pq F24 (ex_bs (vs := #[(0, (.agg #[(.string q.me), (.string q.uri), (.string q.iv), (.string q.fo), (.string q.ve)]))]) (by have e0 : a24.eval (.tmp 25) = (.agg #[(.string q.me), (.string q.uri), (.string q.iv), (.string q.fo), (.string q.ve)]) := h25_24; simp only [List.map_toArray, List.map_cons, List.map_nil, e0]) hr2) fun a25 u25 F25 (h26_25 : a25.tmps.getD 26 undef = (.slice (some ⟨gx, 0, none⟩) 1 1)) => ?_
 clear Q_1 hgx
 refine wl_pq F25 (ex_as h26_25) fun a26 u26 F26 h2_26 => ?_
 change Code.wp _ _ _ _ _
 refine wp_ret ?_
 try simp only [Exit.then, Exit.inBlock]
 exact bodyPost_ret (v := (.slice (some ⟨gx, 0, none⟩) 1 1)) ((results_tmp rfl _ _ _).trans (by rw [h2_26])) F26.defers ⟨_, rfl, .mk Bx_2 hok, Q_2⟩
theorem keyof_any {lo : Nat} {kp : Option Nat} {k : Option KeyD} {w0 : World} (h : KeyP w0 lo kp k) : Calls Tryd.prog 51 #[pto kp] w0 fun e w' => ∃ kv, e = .returned kv ∧ KeySl w' kv k ∧ w0.grownBy w' none := by
 cases h with
 | nil =>
   refine keyof_nil.mono ?_
   rintro e w' ⟨rfl, rfl⟩
   exact ⟨_, rfl, .nil, grown_refl _ _⟩
 | mk h hp ok => exact keyof_some h ok
theorem mapof_nil {w0 : World} : Calls Tryd.prog 52 #[.pointer none] w0 fun e w' => e = .returned (.slice none 0 0) ∧ w0 = w' := by
 refine calls_of_wp Tryd.func52 rfl ?_
 generalize hA : Act.mk _ _ = a0
 have F0 : Fz 19 a0 := by subst hA; exact ⟨by simp [Tryd.ntmps52], rfl⟩
 have h0_0 : a0.tmps.getD 0 undef = (.pointer none) := by subst hA; exact fr_arg rfl
 refine wp_sr ?_
 refine wl_pq F0 (ex_as (v := (.slice none 0 0)) rfl) fun a1 u1 F1 h2_1 => ?_
 change Code.wp _ _ _ _ _
 refine wp_seq ?_
 refine wp_sr ?_
 refine wl_pq F1 (ex_mv (u1.w h0_0)) fun a2 u2 F2 h3_2 => ?_
 refine wl_pq F2 (ex_bin (vy := (.pointer none)) (v := (.bool true)) h3_2 rfl (by kernel_rfl)) fun a3 u3 F3 h4_3 => ?_
 change Code.wp _ _ _ _ _
 refine wp_cond_true h4_3 ?_
 refine wp_sr ?_
 refine wl_pq F3 (ex_as (v := (.slice none 0 0)) rfl) fun a4 u4 F4 h2_4 => ?_
 change Code.wp _ _ _ _ _
 refine wp_ret ?_
 try simp only [Exit.then, Exit.inBlock]
 exact bodyPost_ret (v := (.slice none 0 0)) ((results_tmp rfl _ _ _).trans (by rw [h2_4])) F4.defers ⟨rfl, rfl⟩
theorem mapof_some {p : Nat} {q : MapD} {w0 : World} (Bk_0 : Blk w0 p 115 #[(.string q.uri), (.int .i64 q.li), (.int .i64 q.off)]) (hok : q.Ok) : Calls Tryd.prog 52 #[pt p] w0 fun e w' => ∃ kv, e = .returned kv ∧ MapSl w' kv (some q) ∧ w0.grownBy w' none := by
 refine calls_of_wp Tryd.func52 rfl ?_
 generalize hA : Act.mk _ _ = a0
 have F0 : Fz 19 a0 := by subst hA; exact ⟨by simp [Tryd.ntmps52], rfl⟩
 have h0_0 : a0.tmps.getD 0 undef = (.pointer (some ⟨p, 0, none⟩)) := by subst hA; exact fr_arg rfl
 have Q_0 := grown_refl w0 none
 refine wp_sr ?_
 refine wl_pq F0 (ex_as (v := (.slice none 0 0)) rfl) fun a1 u1 F1 h2_1 => ?_
 change Code.wp _ _ _ _ _
 refine wp_seq ?_
 refine wp_sr ?_
 refine wl_pq F1 (ex_mv (u1.w h0_0)) fun a2 u2 F2 h3_2 => ?_
 refine wl_pq F2 (ex_bin (vy := (.pointer none)) (v := (.bool false)) h3_2 rfl (by kernel_rfl)) fun a3 u3 F3 h4_3 => ?_
 change Code.wp _ _ _ _ _
 refine wp_cond_false h4_3 ?_
 refine wp_skip ?_
 change Code.wp _ _ _ _ _
 refine wp_seq ?_
 obtain ⟨w1, hw1⟩ : ∃ w, w = w0.drew := ⟨_, rfl⟩
 have G1 : w0.grownBy w1 none := hw1 ▸ grown_drew _
 have Bk_1 := Bk_0.gn G1
 have Q_1 := grown_trans Q_0 G1
 refine rg_stillt 13 hw1 hmix (by kernel_rfl) ?_
 clear Q_0
 have h0_3 := u3.w (u2.w (u1.w h0_0))
 refine st_pq F3 (ex_mv h0_3) fun a4 u4 F4 h5_4 => ?_
 refine st_pq F4 (ex_nil h5_4) fun a5 u5 F5 h6_5 => ?_
 refine st_pq F5 (ex_fb 0 h6_5) fun a6 u6 F6 h7_6 => ?_
 refine st_pq F6 (ex_le (v := (.string q.uri)) h7_6 (Bk_1.cell 0)) fun a7 u7 F7 h8_7 => ?_
 have h0_7 := u7.w (u6.w (u5.w (u4.w h0_3)))
 refine st_pq F7 (ex_mv h0_7) fun a8 u8 F8 h9_8 => ?_
 refine st_pq F8 (ex_nil h9_8) fun a9 u9 F9 h10_9 => ?_
 refine st_pq F9 (ex_fb 1 h10_9) fun a10 u10 F10 h11_10 => ?_
 refine st_pq F10 (ex_le (v := (.int .i64 q.li)) h11_10 (Bk_1.cell 1)) fun a11 u11 F11 h12_11 => ?_
 have h0_11 := u11.w (u10.w (u9.w (u8.w h0_7)))
 refine st_pq F11 (ex_mv h0_11) fun a12 u12 F12 h13_12 => ?_
 refine st_pq F12 (ex_nil h13_12) fun a13 u13 F13 h14_13 => ?_
 refine st_pq F13 (ex_fb 2 h14_13) fun a14 u14 F14 h15_14 => ?_
 refine st_pq F14 (ex_le (v := (.int .i64 q.off)) h15_14 (Bk_1.cell 2)) fun a15 u15 F15 h16_15 => ?_
 have h8_15 := u15.w (u14.w (u13.w (u12.w (u11.w (u10.w (u9.w (u8.w h8_7)))))))
 have h12_15 := u15.w (u14.w (u13.w (u12.w h12_11)))
 refine st_pq F15 (ex_bd (w' := w1) (vs :=  #[(0, (.string q.uri)), (1, (.int .i64 q.li)), (2, (.int .i64 q.off))]) (v := (.agg #[(.string q.uri), (.int .i64 q.li), (.int .i64 q.off)])) (by have e0 : a15.eval (.tmp 8) = (.string q.uri) := h8_15; have e1 : a15.eval (.tmp 12) = (.int .i64 q.li) := h12_15; have e2 : a15.eval (.tmp 16) = (.int .i64 q.off) := h16_15; simp only [List.map_toArray, List.map_cons, List.map_nil, e0, e1, e2]) (by kernel_rfl)) fun a16 u16 F16 h17_16 => ?_
 obtain ⟨gx, hgx⟩ : ∃ g, w1.heap.size = g := ⟨_, rfl⟩
 have ne_k_x : p ≠ gx := by have := Bk_1.lt; omega
 obtain ⟨w2, hr2, Bx_2, G2, hs2⟩ := bs_run (op := Instr.buildSlice 37 1 #[(0, (.agg #[(.string q.uri), (.int .i64 q.li), (.int .i64 q.off)]))]) (n := 1) (T := 80) (cs := #[(.string q.uri), (.int .i64 q.li), (.int .i64 q.off)]) hgx (fun _ => by kernel_rfl)
 have Bk_2 := Bk_1.gn G2
 have Q_2 := grown_trans Q_1 G2
 refine wl_pq F16 (ex_bs (vs := #[(0, (.agg #[(.string q.uri), (.int .i64 q.li), (.int .i64 q.off)]))]) (by have e0 : a16.eval (.tmp 17) = (.agg #[(.string q.uri), (.int .i64 q.li), (.int .i64 q.off)]) := h17_16; simp only [List.map_toArray, List.map_cons, List.map_nil, e0]) hr2) fun a17 u17 F17 (h18_17 : a17.tmps.getD 18 undef = (.slice (some ⟨gx, 0, none⟩) 1 1)) => ?_
 clear Q_1 hgx
 refine wl_pq F17 (ex_as h18_17) fun a18 u18 F18 h2_18 => ?_
 change Code.wp _ _ _ _ _
 refine wp_ret ?_
 try simp only [Exit.then, Exit.inBlock]
 exact bodyPost_ret (v := (.slice (some ⟨gx, 0, none⟩) 1 1)) ((results_tmp rfl _ _ _).trans (by rw [h2_18])) F18.defers ⟨_, rfl, .mk Bx_2 hok, Q_2⟩
theorem mapof_any {lo : Nat} {kp : Option Nat} {k : Option MapD} {w0 : World} (h : MapP w0 lo kp k) : Calls Tryd.prog 52 #[pto kp] w0 fun e w' => ∃ kv, e = .returned kv ∧ MapSl w' kv k ∧ w0.grownBy w' none := by
 cases h with
 | nil =>
   refine mapof_nil.mono ?_
   rintro e w' ⟨rfl, rfl⟩
   exact ⟨_, rfl, .nil, grown_refl _ _⟩
 | mk h hp ok => exact mapof_some h ok
theorem cueof_nil {w0 : World} : Calls Tryd.prog 65 #[.pointer none] w0 fun e w' => e = .returned (.slice none 0 0) ∧ w0 = w' := by
 refine calls_of_wp Tryd.func65 rfl ?_
 generalize hA : Act.mk _ _ = a0
 have F0 : Fz 33 a0 := by subst hA; exact ⟨by simp [Tryd.ntmps65], rfl⟩
 have h0_0 : a0.tmps.getD 0 undef = (.pointer none) := by subst hA; exact fr_arg rfl
 refine wp_sr ?_
 refine wl_pq F0 (ex_as (v := (.slice none 0 0)) rfl) fun a1 u1 F1 h2_1 => ?_
 change Code.wp _ _ _ _ _
 refine wp_seq ?_
 refine wp_sr ?_
 refine wl_pq F1 (ex_mv (u1.w h0_0)) fun a2 u2 F2 h3_2 => ?_
 refine wl_pq F2 (ex_bin (vy := (.pointer none)) (v := (.bool true)) h3_2 rfl (by kernel_rfl)) fun a3 u3 F3 h4_3 => ?_
 change Code.wp _ _ _ _ _
 refine wp_cond_true h4_3 ?_
 refine wp_sr ?_
 refine wl_pq F3 (ex_as (v := (.slice none 0 0)) rfl) fun a4 u4 F4 h2_4 => ?_
 change Code.wp _ _ _ _ _
 refine wp_ret ?_
 try simp only [Exit.then, Exit.inBlock]
 exact bodyPost_ret (v := (.slice none 0 0)) ((results_tmp rfl _ _ _).trans (by rw [h2_4])) F4.defers ⟨rfl, rfl⟩
theorem version_any {d : WinD} {B b g hd : Nat} {ms : List Nat} {kp mp : Option Nat} {arr : Array Value} {w0 : World} (H : PlP w0 B b d g hd ms kp mp arr) : Calls Tryd.prog 50 #[pt b] w0 fun e w' => e = .returned (.int .u8 d.ver) ∧ w' = w0 := by
 have Bb_0 : Blk w0 b 104 #[(.float .f64 (fn d.tgt)), (.int .u64 d.seq), (.slice (some ⟨g, 0, none⟩) d.places d.places), (.string ⟨#[]⟩), (.bool d.ifr), (.bool d.clo), (.int .u64 0), (.int .u64 0), (.float .f64 0), (.bool false), (.bool false), (.int .i64 0), (.int .u64 d.written), (.int .u64 d.places), (.int .u64 hd), (.int .u64 ((hd + d.segs.length) % d.places : Nat)), (.int .u64 d.segs.length), (.slice none 0 0), (.int .i64 0), (.int .i8 0), (.int .u8 d.ver), (pto kp), (pto mp)] := H.blk
 refine calls_of_wp Tryd.func50 rfl ?_
 generalize hA : Act.mk _ _ = a0
 have F0 : Fz 7 a0 := by subst hA; exact ⟨by simp [Tryd.ntmps50], rfl⟩
 have h0_0 : a0.tmps.getD 0 undef = (.pointer (some ⟨b, 0, none⟩)) := by subst hA; exact fr_arg rfl
 have Q_0 := grown_refl w0 none
 refine wp_sr ?_
 refine wl_pq F0 (ex_as (v := (.int .u8 0)) rfl) fun a1 u1 F1 h2_1 => ?_
 change Code.wp _ _ _ _ _
 refine wp_sr ?_
 refine wl_pq F1 (ex_mv (u1.w h0_0)) fun a2 u2 F2 h3_2 => ?_
 refine wl_pq F2 (ex_nil h3_2) fun a3 u3 F3 h4_3 => ?_
 refine wl_pq F3 (ex_fb 20 h4_3) fun a4 u4 F4 h5_4 => ?_
 refine wl_pq F4 (ex_le (v := (.int .u8 d.ver)) h5_4 (Bb_0.cell 20)) fun a5 u5 F5 h6_5 => ?_
 refine wl_pq F5 (ex_as h6_5) fun a6 u6 F6 h2_6 => ?_
 change Code.wp _ _ _ _ _
 refine wp_ret ?_
 try simp only [Exit.then, Exit.inBlock]
 exact bodyPost_ret (v := (.int .u8 d.ver)) ((results_tmp rfl _ _ _).trans (by rw [h2_6])) F6.defers ⟨rfl, rfl⟩
theorem winsize_any {d : WinD} {B b g hd : Nat} {ms : List Nat} {kp mp : Option Nat} {arr : Array Value} {w0 : World} (H : PlP w0 B b d g hd ms kp mp arr) : Calls Tryd.prog 53 #[pt b] w0 fun e w' => e = .returned (.int .u64 d.written) ∧ w' = w0 := by
 have Bb_0 : Blk w0 b 104 #[(.float .f64 (fn d.tgt)), (.int .u64 d.seq), (.slice (some ⟨g, 0, none⟩) d.places d.places), (.string ⟨#[]⟩), (.bool d.ifr), (.bool d.clo), (.int .u64 0), (.int .u64 0), (.float .f64 0), (.bool false), (.bool false), (.int .i64 0), (.int .u64 d.written), (.int .u64 d.places), (.int .u64 hd), (.int .u64 ((hd + d.segs.length) % d.places : Nat)), (.int .u64 d.segs.length), (.slice none 0 0), (.int .i64 0), (.int .i8 0), (.int .u8 d.ver), (pto kp), (pto mp)] := H.blk
 refine calls_of_wp Tryd.func53 rfl ?_
 generalize hA : Act.mk _ _ = a0
 have F0 : Fz 7 a0 := by subst hA; exact ⟨by simp [Tryd.ntmps53], rfl⟩
 have h0_0 : a0.tmps.getD 0 undef = (.pointer (some ⟨b, 0, none⟩)) := by subst hA; exact fr_arg rfl
 have Q_0 := grown_refl w0 none
 refine wp_sr ?_
 refine wl_pq F0 (ex_as (v := (.int .u64 0)) rfl) fun a1 u1 F1 h2_1 => ?_
 change Code.wp _ _ _ _ _
 refine wp_sr ?_
 refine wl_pq F1 (ex_mv (u1.w h0_0)) fun a2 u2 F2 h3_2 => ?_
 refine wl_pq F2 (ex_nil h3_2) fun a3 u3 F3 h4_3 => ?_
 refine wl_pq F3 (ex_fb 12 h4_3) fun a4 u4 F4 h5_4 => ?_
 refine wl_pq F4 (ex_le (v := (.int .u64 d.written)) h5_4 (Bb_0.cell 12)) fun a5 u5 F5 h6_5 => ?_
 refine wl_pq F5 (ex_as h6_5) fun a6 u6 F6 h2_6 => ?_
 change Code.wp _ _ _ _ _
 refine wp_ret ?_
 try simp only [Exit.then, Exit.inBlock]
 exact bodyPost_ret (v := (.int .u64 d.written)) ((results_tmp rfl _ _ _).trans (by rw [h2_6])) F6.defers ⟨rfl, rfl⟩
theorem zzhead_any {d : WinD} {B b g hd : Nat} {ms : List Nat} {kp mp : Option Nat} {arr : Array Value} {w0 : World} (H : PlP w0 B b d g hd ms kp mp arr) : Calls Tryd.prog 66 #[pt b] w0 fun e w' => e = .returned (.tuple #[.int .u64 hd, .int .u64 ((hd + d.segs.length) % d.places : Nat), .int .u64 d.segs.length]) ∧ w0.grownBy w' none := by
 have Bb_0 : Blk w0 b 104 #[(.float .f64 (fn d.tgt)), (.int .u64 d.seq), (.slice (some ⟨g, 0, none⟩) d.places d.places), (.string ⟨#[]⟩), (.bool d.ifr), (.bool d.clo), (.int .u64 0), (.int .u64 0), (.float .f64 0), (.bool false), (.bool false), (.int .i64 0), (.int .u64 d.written), (.int .u64 d.places), (.int .u64 hd), (.int .u64 ((hd + d.segs.length) % d.places : Nat)), (.int .u64 d.segs.length), (.slice none 0 0), (.int .i64 0), (.int .i8 0), (.int .u8 d.ver), (pto kp), (pto mp)] := H.blk
 refine calls_of_wp Tryd.func66 rfl ?_
 generalize hA : Act.mk _ _ = a0
 have F0 : Fz 17 a0 := by subst hA; exact ⟨by simp [Tryd.ntmps66], rfl⟩
 have h0_0 : a0.tmps.getD 0 undef = (.pointer (some ⟨b, 0, none⟩)) := by subst hA; exact fr_arg rfl
 have Q_0 := grown_refl w0 none
 refine wp_sr ?_
 refine wl_pq F0 (ex_as (v := (.int .u64 0)) rfl) fun a1 u1 F1 h2_1 => ?_
 refine wl_pq F1 (ex_as (v := (.int .u64 0)) rfl) fun a2 u2 F2 h3_2 => ?_
 refine wl_pq F2 (ex_as (v := (.int .u64 0)) rfl) fun a3 u3 F3 h4_3 => ?_
 change Code.wp _ _ _ _ _
 refine wp_seq ?_
 obtain ⟨w1, hw1⟩ : ∃ w, w = w0.drew := ⟨_, rfl⟩
 have G1 : w0.grownBy w1 none := hw1 ▸ grown_drew _
 have Bb_1 := Bb_0.gn G1
 have Q_1 := grown_trans Q_0 G1
 refine rg_still hw1 hmix (by kernel_rfl) ?_
 clear Q_0
 have h0_3 := u3.w (u2.w (u1.w h0_0))
 refine st_pq F3 (ex_mv h0_3) fun a4 u4 F4 h5_4 => ?_
 refine st_pq F4 (ex_nil h5_4) fun a5 u5 F5 h6_5 => ?_
 refine st_pq F5 (ex_fb 14 h6_5) fun a6 u6 F6 h7_6 => ?_
 refine st_pq F6 (ex_le (v := (.int .u64 hd)) h7_6 (Bb_1.cell 14)) fun a7 u7 F7 h8_7 => ?_
 have h0_7 := u7.w (u6.w (u5.w (u4.w h0_3)))
 refine st_pq F7 (ex_mv h0_7) fun a8 u8 F8 h9_8 => ?_
 refine st_pq F8 (ex_nil h9_8) fun a9 u9 F9 h10_9 => ?_
 refine st_pq F9 (ex_fb 15 h10_9) fun a10 u10 F10 h11_10 => ?_
 refine st_pq F10 (ex_le (v := (.int .u64 ((hd + d.segs.length) % d.places : Nat))) h11_10 (Bb_1.cell 15)) fun a11 u11 F11 h12_11 => ?_
 have h0_11 := u11.w (u10.w (u9.w (u8.w h0_7)))
 refine st_pq F11 (ex_mv h0_11) fun a12 u12 F12 h13_12 => ?_
 refine st_pq F12 (ex_nil h13_12) fun a13 u13 F13 h14_13 => ?_
 refine st_pq F13 (ex_fb 16 h14_13) fun a14 u14 F14 h15_14 => ?_
 refine st_pq F14 (ex_le (v := (.int .u64 d.segs.length)) h15_14 (Bb_1.cell 16)) fun a15 u15 F15 h16_15 => ?_
 have h8_15 := u15.w (u14.w (u13.w (u12.w (u11.w (u10.w (u9.w (u8.w h8_7)))))))
 refine st_pq F15 (ex_as h8_15) fun a16 u16 F16 h2_16 => ?_
 have h12_16 := u16.w (u15.w (u14.w (u13.w (u12.w h12_11))))
 refine st_pq F16 (ex_as h12_16) fun a17 u17 F17 h3_17 => ?_
 refine st_pq F17 (ex_as (u17.w (u16.w h16_15))) fun a18 u18 F18 h4_18 => ?_
 change Code.wp _ _ _ _ _
 refine wp_ret ?_
 try simp only [Exit.then, Exit.inBlock]
 exact bodyPost_ret (v := .tuple #[(.int .u64 hd), (.int .u64 ((hd + d.segs.length) % d.places : Nat)), (.int .u64 d.segs.length)]) ((results_tmp3 rfl _ _ _).trans (by rw [(u18.w (u17.w h2_16)), (u18.w h3_17), h4_18])) F18.defers ⟨rfl, Q_1⟩
theorem inorder_any {d : WinD} {B b g hd : Nat} {ms : List Nat} {kp mp : Option Nat} {arr : Array Value} {w0 : World} (H : PlP w0 B b d g hd ms kp mp arr) (hp12 : d.places ≤ 12) : Calls Tryd.prog 49 #[pt b] w0 fun e w' => ∃ v, e = .returned v ∧ GR w' w0.heap.size 90 pt v ms ∧ Kt w0.heap.size [90] w0 w' := by
 have Bb0 := H.blk
 have Bg0 := H.row
 have hw : w0.heap.size ≤ w0.heap.size := Nat.le_refl _
 have hhd := H.ring.hlt
 have hml := H.fms.1
 have hrl := H.ring.le
 refine calls_of_wp Tryd.func49 rfl ?_
 generalize hA : Act.mk _ _ = a0
 have F0 : Fz 39 a0 := by subst hA; exact ⟨by simp [Tryd.ntmps49], rfl⟩
 have h0_0 : a0.tmps.getD 0 undef = (.pointer (some ⟨b, 0, none⟩)) := by subst hA; exact fr_arg rfl
 have K_0 := Kt.refl w0.heap.size [90] w0
 refine wp_sr ?_
 refine wl_pq F0 (ex_as (v := (.slice none 0 0)) rfl) fun a1 u1 F1 h2_1 => ?_
 change Code.wp _ _ _ _ _
 refine wp_sr ?_
 refine wl_pq F1 (ex_mv (u1.w h0_0)) fun a2 u2 F2 h9_2 => ?_
 refine wl_cl (args := #[(.pointer (some ⟨b, 0, none⟩))]) (R := fun v w' => v = .tuple #[.int .u64 hd, .int .u64 ((hd + d.segs.length) % d.places : Nat), .int .u64 d.segs.length] ∧ w0.grownBy w' none) (ex_cl (fun _ _ => by kernel_rfl) (arg1 h9_2)) ((zzhead_any H).mono fun _ _ h => ⟨_, h.1, rfl, h.2⟩) F2.l ?_
 rintro v w1 ⟨rfl, G1⟩
 have K_1 := K_0.nw hw G1
 intro a3 u3 h10_3
 have F3 := F2.pt u3
 clear K_0
 refine wl_pq F3 (ex_mv h10_3) fun a4 u4 F4 h8_4 => ?_
 refine wl_pq F4 (ex_ext (vs := #[(.int .u64 hd), (.int .u64 ((hd + d.segs.length) % d.places : Nat)), (.int .u64 d.segs.length)]) (v := (.int .u64 hd)) h8_4 rfl) fun a5 u5 F5 h11_5 => ?_
 refine wl_pq F5 (ex_ext (vs := #[(.int .u64 hd), (.int .u64 ((hd + d.segs.length) % d.places : Nat)), (.int .u64 d.segs.length)]) (v := (.int .u64 ((hd + d.segs.length) % d.places : Nat))) (u5.w h8_4) rfl) fun a6 u6 F6 h12_6 => ?_
 refine wl_pq F6 (ex_ext (vs := #[(.int .u64 hd), (.int .u64 ((hd + d.segs.length) % d.places : Nat)), (.int .u64 d.segs.length)]) (v := (.int .u64 d.segs.length)) (u6.w (u5.w h8_4)) rfl) fun a7 u7 F7 h13_7 => ?_
 refine wl_pq F7 (ex_as (u7.w (u6.w h11_5))) fun a8 u8 F8 h3_8 => ?_
 refine wl_pq F8 (ex_as (u8.w (u7.w h12_6))) fun a9 u9 F9 h4_9 => ?_
 refine wl_pq F9 (ex_as (u9.w (u8.w h13_7))) fun a10 u10 F10 h5_10 => ?_
 change Code.wp _ _ _ _ _
 refine wp_sr ?_
 refine wl_pq F10 (ex_as (v := (.slice none 0 0)) rfl) fun a11 u11 F11 h6_11 => ?_
 change Code.wp _ _ _ _ _
 refine wp_seq ?_
 refine wp_sr ?_
 refine wl_pq F11 (ex_as (v := (.int .u64 0)) rfl) fun a12 u12 F12 h7_12 => ?_
 change Code.wp _ _ _ _ _
 have h0_12 := u12.w (u11.w (u10.w (u9.w (u8.w (u7.w (u6.w (u5.w (u4.w (u3.w (u2.w (u1.w h0_0)))))))))))
 have h3_12 := u12.w (u11.w (u10.w (u9.w h3_8)))
 refine loop_k (si := 7) (ty := .u64) (m := d.segs.length) (fun (j : Nat) a w => ∃ ov : Value, (Fz 39 a) ∧ (a.tmps.getD 7 undef = .int .u64 j) ∧ (a.tmps.getD 0 undef = (.pointer (some ⟨b, 0, none⟩))) ∧ (a.tmps.getD 3 undef = (.int .u64 hd)) ∧ (a.tmps.getD 5 undef = (.int .u64 d.segs.length)) ∧ (a.tmps.getD 6 undef = ov) ∧ (Kt w0.heap.size [90] w0 w) ∧ (GR w w0.heap.size 90 pt ov (ms.take j))) ⟨.slice none 0 0, F12, h7_12, h0_12, h3_12, (u12.w (u11.w h5_10)), (u12.w h6_11), K_1, GR.nil⟩ (fun _ _ _ ⟨_, h⟩ => h.2.1) ?_ ?_
 · clear K_1
   intro j a13 w2 hj ⟨ov, F13, h7_13, h0_13, h3_13, h5_13, h6_13, K_2, pr_2⟩ R hR
   have Bb_2 := Bb0.bl K_2.bel
   have Bg_2 := Bg0.bl K_2.bel
   obtain ⟨m, hm⟩ : ∃ m, ms[j]? = some m := ⟨_, List.getElem?_eq_getElem (by omega)⟩
   refine wp_seq ?_
   refine wp_sr ?_
   refine wl_pq F13 (ex_mv h7_13) fun a14 u14 F14 h14_14 => ?_
   refine wl_pq F14 (ex_mv (u14.w h5_13)) fun a15 u15 F15 h15_15 => ?_
   refine wl_pq F15 (ex_bin (v := (.bool true)) (u15.w h14_14) h15_15 ((uo_lt j d.segs.length _).trans (by rw [decide_eq_true (by omega)]))) fun a16 u16 F16 h16_16 => ?_
   change Code.wp _ _ _ _ _
   refine wp_cond_true h16_16 ?_
   refine wp_skip ?_
   change Code.wp _ _ _ _ _
   refine wp_seq ?_
   refine wp_block ?_
   obtain ⟨w3, hw3⟩ : ∃ w, w = w2.drew := ⟨_, rfl⟩
   have G3 : w2.grownBy w3 none := hw3 ▸ grown_drew _
   have Bg_3 := Bg_2.gn G3
   have Bb_3 := Bb_2.gn G3
   have K_3 := K_2.nw hw G3
   have pr_3 := pr_2.kt (Kt.of_none G3) (by decide)
   refine rg_tree (S := fun w' => Blk w' b 104 #[(.float .f64 (fn d.tgt)), (.int .u64 d.seq), (.slice (some ⟨g, 0, none⟩) d.places d.places), (.string ⟨#[]⟩), (.bool d.ifr), (.bool d.clo), (.int .u64 0), (.int .u64 0), (.float .f64 0), (.bool false), (.bool false), (.int .i64 0), (.int .u64 d.written), (.int .u64 d.places), (.int .u64 hd), (.int .u64 ((hd + d.segs.length) % d.places : Nat)), (.int .u64 d.segs.length), (.slice none 0 0), (.int .i64 0), (.int .i8 0), (.int .u8 d.ver), (pto kp), (pto mp)] ∧ Blk w' g 90 arr) [] 20 hw3 ⟨rfl, by decide⟩ hmix (by kernel_rfl) (by kernel_rfl) (⟨Bb_3, Bg_3⟩) ?_
   clear K_2 pr_2
   have h6_16 := u16.w (u15.w (u14.w h6_13))
   refine tree_take (j := 0) rfl (by kernel_rfl) (by kernel_rfl) (by kernel_rfl) (fun w hw => ex_mv h6_16) (⟨Bb_3, Bg_3⟩) F16.l fun a17 u17 h19_17 => ?_
   have F17 := F16.pt u17
   have h0_17 := u17.w (u16.w (u15.w (u14.w h0_13)))
   refine tree_take (j := 1) rfl (by kernel_rfl) (by kernel_rfl) (by kernel_rfl) (fun w hw => ex_mv h0_17) (⟨Bb_3, Bg_3⟩) F17.l fun a18 u18 h20_18 => ?_
   have F18 := F17.pt u18
   refine tree_take (j := 2) rfl (by kernel_rfl) (by kernel_rfl) (by kernel_rfl) (fun w hw => ex_nil h20_18) (⟨Bb_3, Bg_3⟩) F18.l fun a19 u19 h21_19 => ?_
   have F19 := F18.pt u19
   refine tree_take (j := 3) rfl (by kernel_rfl) (by kernel_rfl) (by kernel_rfl) (fun w hw => ex_fb 2 h21_19) (⟨Bb_3, Bg_3⟩) F19.l fun a20 u20 h22_20 => ?_
   have F20 := F19.pt u20
   refine tree_take (j := 4) rfl (by kernel_rfl) (by kernel_rfl) (by kernel_rfl) (fun w hw => ex_le (v := (.slice (some ⟨g, 0, none⟩) d.places d.places)) h22_20 (hw.1.cell 2)) (⟨Bb_3, Bg_3⟩) F20.l fun a21 u21 h23_21 => ?_
   have F21 := F20.pt u21
   have h3_21 := u21.w (u20.w (u19.w (u18.w (u17.w (u16.w (u15.w (u14.w h3_13)))))))
   refine tree_take (j := 5) rfl (by kernel_rfl) (by kernel_rfl) (by kernel_rfl) (fun w hw => ex_mv h3_21) (⟨Bb_3, Bg_3⟩) F21.l fun a22 u22 h24_22 => ?_
   have F22 := F21.pt u22
   have h7_22 := u22.w (u21.w (u20.w (u19.w (u18.w (u17.w (u16.w (u15.w (u14.w h7_13))))))))
   refine tree_take (j := 6) rfl (by kernel_rfl) (by kernel_rfl) (by kernel_rfl) (fun w hw => ex_mv h7_22) (⟨Bb_3, Bg_3⟩) F22.l fun a23 u23 h25_23 => ?_
   have F23 := F22.pt u23
   refine tree_take (j := 7) rfl (by kernel_rfl) (by kernel_rfl) (by kernel_rfl) (fun w hw => ex_bin (v := (.int .u64 (hd + j : Nat))) (u23.w h24_22) h25_23 (uo_add hd j (by omega) _)) (⟨Bb_3, Bg_3⟩) F23.l fun a24 u24 h26_24 => ?_
   have F24 := F23.pt u24
   have h0_24 := u24.w (u23.w (u22.w (u21.w (u20.w (u19.w (u18.w h0_17))))))
   refine tree_take (j := 8) rfl (by kernel_rfl) (by kernel_rfl) (by kernel_rfl) (fun w hw => ex_mv h0_24) (⟨Bb_3, Bg_3⟩) F24.l fun a25 u25 h27_25 => ?_
   have F25 := F24.pt u25
   refine tree_take (j := 9) rfl (by kernel_rfl) (by kernel_rfl) (by kernel_rfl) (fun w hw => ex_nil h27_25) (⟨Bb_3, Bg_3⟩) F25.l fun a26 u26 h28_26 => ?_
   have F26 := F25.pt u26
   refine tree_take (j := 10) rfl (by kernel_rfl) (by kernel_rfl) (by kernel_rfl) (fun w hw => ex_fb 2 h28_26) (⟨Bb_3, Bg_3⟩) F26.l fun a27 u27 h29_27 => ?_
   have F27 := F26.pt u27
   refine tree_take (j := 11) rfl (by kernel_rfl) (by kernel_rfl) (by kernel_rfl) (fun w hw => ex_le (v := (.slice (some ⟨g, 0, none⟩) d.places d.places)) h29_27 (hw.1.cell 2)) (⟨Bb_3, Bg_3⟩) F27.l fun a28 u28 h30_28 => ?_
   have F28 := F27.pt u28
   refine tree1 (j := 12) (by kernel_rfl) ?_
   refine tk_p rfl (ex_bi (w' := w3) (args := #[(.slice (some ⟨g, 0, none⟩) d.places d.places)]) (v := (.int .i64 d.places)) (arg1 h30_28) (by kernel_rfl)) (⟨Bb_3, Bg_3⟩) F28.l fun a29 u29 h31_29 => ?_
   have F29 := F28.pt u29
   refine tree_take (j := 13) rfl (by kernel_rfl) (by kernel_rfl) (by kernel_rfl) (fun w hw => ex_conv (vx := (.int .i64 d.places)) (v := (.int .u64 d.places)) h31_29 (cv_iu d.places (by have := hp12; omega) _)) (⟨Bb_3, Bg_3⟩) F29.l fun a30 u30 h32_30 => ?_
   have F30 := F29.pt u30
   have h26_30 := u30.w (u29.w (u28.w (u27.w (u26.w (u25.w h26_24)))))
   refine tree_take (j := 14) rfl (by kernel_rfl) (by kernel_rfl) (by kernel_rfl) (fun w hw => ex_bin (v := (.int .u64 ((hd + j : Nat) % d.places : Nat))) h26_30 h32_30 (uo_rem (hd + j : Nat) d.places (by omega) (by omega) _)) (⟨Bb_3, Bg_3⟩) F30.l fun a31 u31 h33_31 => ?_
   have F31 := F30.pt u31
   have h23_31 := u31.w (u30.w (u29.w (u28.w (u27.w (u26.w (u25.w (u24.w (u23.w (u22.w h23_21)))))))))
   refine tree_take (j := 15) rfl (by kernel_rfl) (by kernel_rfl) (by kernel_rfl) (fun w hw => ex_ixg (vx := (.slice (some ⟨g, 0, none⟩) d.places d.places)) (vy := (.int .u64 ((hd + j : Nat) % d.places : Nat))) (v := (.pointer (some ⟨g, ((hd + j : Nat) % d.places : Nat), none⟩))) h23_31 h33_31 (ix_pm g d.places ((hd + j : Nat) % d.places : Nat) (by first | omega | exact Nat.mod_lt _ (by omega)) _)) (⟨Bb_3, Bg_3⟩) F31.l fun a32 u32 h34_32 => ?_
   have F32 := F31.pt u32
   refine tree_take (j := 16) rfl (by kernel_rfl) (by kernel_rfl) (by kernel_rfl) (fun w hw => ex_le (v := pt m) h34_32 ((hw.2.cell _).trans (H.ring.at_ _ _ hm))) (⟨Bb_3, Bg_3⟩) F32.l fun a33 u33 h35_33 => ?_
   have F33 := F32.pt u33
   refine tree1 (j := 17) (by kernel_rfl) ?_
   obtain ⟨gx, hgx⟩ : ∃ g, w3.heap.size = g := ⟨_, rfl⟩
   have ne_g_x : g ≠ gx := by have := Bg_3.lt; omega
   have ne_b_x : b ≠ gx := by have := Bb_3.lt; omega
   obtain ⟨w4, hr4, Bx_4, G4, hs4⟩ := bs_run (op := Instr.buildSlice 88 1 #[(0, (pt m))]) (n := 1) (T := 90) (cs := #[(pt m)]) hgx (fun _ => by kernel_rfl)
   have Bg_4 := Bg_3.gn G4
   have Bb_4 := Bb_3.gn G4
   have K_4 := K_3.nw hw G4
   have pr_4 := pr_3.kt (Kt.of_none G4) (by decide)
   refine tk_p rfl (ex_bs (vs := #[(0, (pt m))]) (by have e0 : a33.eval (.tmp 35) = (pt m) := h35_33; simp only [List.map_toArray, List.map_cons, List.map_nil, e0]) hr4) (⟨Bb_4, Bg_4⟩) F33.l fun a34 u34 (h36_34 : a34.tmps.getD 36 undef = (.slice (some ⟨gx, 0, none⟩) 1 1)) => ?_
   have F34 := F33.pt u34
   clear K_3 pr_3 hgx
   refine tree1 (j := 18) (by kernel_rfl) ?_
   obtain ⟨v5, w5, hr5, pr_5, G5⟩ := pr_4.push (f := pt) (x := m) (ty := 88) (c := 1) (z := .pointer none) (by_ := 8) Tryd.underlying88 (by kernel_rfl) rfl (by decide) (by decide) Bx_4 rfl (K_4.le hw) (by rw [List.length_take]; omega)
   have KR5 := pr_4.ktof G5
   have Bg_5 := Bg_4.grown G5 (pr_4.far0 H.row.lt)
   have Bb_5 := Bb_4.kt KR5 (by decide)
   have K_5 := pr_4.ktr K_4 hw (Nat.le_refl _) (by decide) G5
   have h19_34 := u34.w (u33.w (u32.w (u31.w (u30.w (u29.w (u28.w (u27.w (u26.w (u25.w (u24.w (u23.w (u22.w (u21.w (u20.w (u19.w (u18.w h19_17))))))))))))))))
   refine tk_p rfl (ex_app h19_34 h36_34 hr5) (⟨Bb_5, Bg_5⟩) F34.l fun a35 u35 (h37_35 : a35.tmps.getD 37 undef = v5) => ?_
   have F35 := F34.pt u35
   clear KR5 K_4 pr_4
   refine tree_take (j := 19) rfl (by kernel_rfl) (by kernel_rfl) (by kernel_rfl) (fun w hw => ex_as h37_35) (⟨Bb_5, Bg_5⟩) F35.l fun a36 u36 h6_36 => ?_
   have F36 := F35.pt u36
   refine tree0 (by kernel_rfl) ?_
   change Code.wp _ _ _ _ _
   refine rg_list ?_
   have h7_36 := u36.w (u35.w (u34.w (u33.w (u32.w (u31.w (u30.w (u29.w (u28.w (u27.w (u26.w (u25.w (u24.w (u23.w h7_22)))))))))))))
   refine wl_pq F36 (ex_mv h7_36) fun a37 u37 F37 h17_37 => ?_
   refine wl_pq F37 (ex_bin (vy := (.int .u64 1)) (v := (.int .u64 (j + 1 : Nat))) h17_37 rfl (uo_add j 1 (by omega) _)) fun a38 u38 F38 h18_38 => ?_
   refine wl_pq F38 (ex_as h18_38) fun a39 u39 F39 h7_39 => ?_
   have h0_39 := u39.w (u38.w (u37.w (u36.w (u35.w (u34.w (u33.w (u32.w (u31.w (u30.w (u29.w (u28.w (u27.w (u26.w (u25.w h0_24))))))))))))))
   have h3_39 := u39.w (u38.w (u37.w (u36.w (u35.w (u34.w (u33.w (u32.w (u31.w (u30.w (u29.w (u28.w (u27.w (u26.w (u25.w (u24.w (u23.w (u22.w h3_21)))))))))))))))))
   have h5_39 := u39.w (u38.w (u37.w (u36.w (u35.w (u34.w (u33.w (u32.w (u31.w (u30.w (u29.w (u28.w (u27.w (u26.w (u25.w (u24.w (u23.w (u22.w (u21.w (u20.w (u19.w (u18.w (u17.w (u16.w (u15.w (u14.w h5_13)))))))))))))))))))))))))
   have h6_39 := u39.w (u38.w (u37.w h6_36))
   exact hR _ _ ⟨v5, F39, h7_39, h0_39, h3_39, h5_39, h6_39, K_5, (by rw [List.take_add_one, hm]; exact pr_5)⟩
 · clear K_1
   intro a13 w2 ⟨ov, F13, h7_13, h0_13, h3_13, h5_13, h6_13, K_2, pr_2⟩
   have Bb_2 := Bb0.bl K_2.bel
   have Bg_2 := Bg0.bl K_2.bel
   refine wp_seq ?_
   refine wp_sr ?_
   refine wl_pq F13 (ex_mv h7_13) fun a14 u14 F14 h14_14 => ?_
   refine wl_pq F14 (ex_mv (u14.w h5_13)) fun a15 u15 F15 h15_15 => ?_
   refine wl_pq F15 (ex_bin (v := (.bool false)) (u15.w h14_14) h15_15 ((uo_lt d.segs.length d.segs.length _).trans (by rw [decide_eq_false (by omega)]))) fun a16 u16 F16 h16_16 => ?_
   change Code.wp _ _ _ _ _
   refine wp_cond_false h16_16 ?_
   refine wp_exit ?_
   try simp only [Exit.then]
   refine inBlock_exit ?_
   change Code.wp _ _ _ _ _
   refine wp_sr ?_
   have h6_16 := u16.w (u15.w (u14.w h6_13))
   refine wl_pq F16 (ex_mv h6_16) fun a17 u17 F17 h38_17 => ?_
   refine wl_pq F17 (ex_as h38_17) fun a18 u18 F18 h2_18 => ?_
   change Code.wp _ _ _ _ _
   refine wp_ret ?_
   try simp only [Exit.then, Exit.inBlock]
   exact bodyPost_ret (v := ov) ((results_tmp rfl _ _ _).trans (by rw [h2_18])) F18.defers ⟨_, rfl, by rw [← hml, List.take_length] at pr_2; exact pr_2, K_2⟩
theorem zip_at {α β : Type} : ∀ {l : List α} {r : List β} {i : Nat} {a : α} {b : β}, l[i]? = some a → r[i]? = some b → (l.zip r)[i]? = some (a, b) := by
 intro l r i a b h1 h2
 rw [List.getElem?_zip_eq_some]
 exact ⟨h1, h2⟩
theorem segsof_any {B base : Nat} {v : Value} {ms : List Nat} {segs : List SegD} {nums : List Nat} {w0 : World} (hr : GR w0 base 90 pt v ms) (hM : MsAt w0 B ms segs nums) (hl : ms.length ≤ 12) : Calls Tryd.prog 48 #[v] w0 fun e w' => ∃ iv, e = .returned iv ∧ ISR w' w0.heap.size iv (nums.zip segs) ∧ Kt w0.heap.size [40] w0 w' := by
 have hw : w0.heap.size ≤ w0.heap.size := Nat.le_refl _
 have hml := hM.1
 have hnl := hM.2.1
 have hlz : (nums.zip segs).length = ms.length := by rw [List.length_zip]; omega
 refine calls_of_wp Tryd.func48 rfl ?_
 generalize hA : Act.mk _ _ = a0
 have F0 : Fz 67 a0 := by subst hA; exact ⟨by simp [Tryd.ntmps48], rfl⟩
 have h0_0 : a0.tmps.getD 0 undef = v := by subst hA; exact fr_arg rfl
 have K_0 := Kt.refl w0.heap.size [40] w0
 refine wp_sr ?_
 refine wl_pq F0 (ex_as (v := (.slice none 0 0)) rfl) fun a1 u1 F1 h2_1 => ?_
 change Code.wp _ _ _ _ _
 refine wp_sr ?_
 refine wl_pq F1 (ex_as (v := (.slice none 0 0)) rfl) fun a2 u2 F2 h3_2 => ?_
 change Code.wp _ _ _ _ _
 refine wp_seq ?_
 refine wp_sr ?_
 refine wl_pq F2 (ex_mv (u2.w (u1.w h0_0))) fun a3 u3 F3 h6_3 => ?_
 refine wl_pq F3 (ex_bi (w' := w0) (args := #[v]) (v := (.int .i64 ms.length)) (arg1 h6_3) (hr.len (by intros; kernel_rfl) (by intros; kernel_rfl) _)) fun a4 u4 F4 h7_4 => ?_
 refine wl_pq F4 (ex_mv (v := (.int .i64 0)) rfl) fun a5 u5 F5 h8_5 => ?_
 change Code.wp _ _ _ _ _
 have h3_5 := u5.w (u4.w (u3.w h3_2))
 refine loop_k (si := 8) (ty := .i64) (m := ms.length) (fun (j : Nat) a w => ∃ ov : Value, (Fz 67 a) ∧ (a.tmps.getD 8 undef = .int .i64 j) ∧ (a.tmps.getD 6 undef = v) ∧ (a.tmps.getD 7 undef = (.int .i64 ms.length)) ∧ (a.tmps.getD 3 undef = ov) ∧ (Kt w0.heap.size [40] w0 w) ∧ (ISR w w0.heap.size ov ((nums.zip segs).take j))) ⟨.slice none 0 0, F5, h8_5, (u5.w (u4.w h6_3)), (u5.w h7_4), h3_5, K_0, ER.nil⟩ (fun _ _ _ ⟨_, h⟩ => h.2.1) ?_ ?_
 · clear K_0
   intro j a6 w1 hj ⟨ov, F6, h8_6, h6_6, h7_6, h3_6, K_1, is_1⟩ R hR
   obtain ⟨m, hm⟩ : ∃ m, ms[j]? = some m := ⟨_, List.getElem?_eq_getElem (by omega)⟩
   obtain ⟨s, hs⟩ : ∃ s, segs[j]? = some s := ⟨_, List.getElem?_eq_getElem (by omega)⟩
   obtain ⟨n, hn⟩ : ∃ n, nums[j]? = some n := ⟨_, List.getElem?_eq_getElem (by omega)⟩
   obtain ⟨kp, mp, hBm, Bm_1, kq_1, mq_1⟩ := (hM.bl K_1.bel).2.2 j s n m hs hn hm
   refine wp_sr ?_
   refine wl_pq F6 (ex_bin (v := (.bool true)) h8_6 h7_6 ((bo_ltn j ms.length _).trans (by rw [decide_eq_true (by omega)]))) fun a7 u7 F7 h9_7 => ?_
   change Code.wp _ _ _ _ _
   refine wp_seq ?_
   refine wp_cond_true h9_7 ?_
   refine wp_skip ?_
   change Code.wp _ _ _ _ _
   refine wp_seq ?_
   refine wp_block ?_
   refine wp_sr ?_
   obtain ⟨gv, uv, cv, hv, hcl⟩ := (hr.bl K_1.bel).elem hm
   refine wl_pq F7 (ex_ixg (vx := v) (vy := (.int .i64 j)) (v := (.pointer (some ⟨gv, uv + j, none⟩))) (u7.w h6_6) (u7.w h8_6) (by rw [hv]; exact ix_pms gv uv _ cv j (by omega) _)) fun a8 u8 F8 h10_8 => ?_
   refine wl_pq F8 (ex_le (v := pt m) h10_8 hcl) fun a9 u9 F9 (h11_9 : a9.tmps.getD 11 undef = (.pointer (some ⟨m, 0, none⟩))) => ?_
   refine wl_pq F9 (ex_as h11_9) fun a10 u10 F10 h5_10 => ?_
   change Code.wp _ _ _ _ _
   refine wp_seq ?_
   refine wp_sr ?_
   refine wl_pq F10 (ex_mv h5_10) fun a11 u11 F11 h12_11 => ?_
   refine wl_pq F11 (ex_bin (vy := (.pointer none)) (v := (.bool false)) h12_11 rfl (by kernel_rfl)) fun a12 u12 F12 h13_12 => ?_
   change Code.wp _ _ _ _ _
   refine wp_cond_false h13_12 ?_
   refine wp_skip ?_
   change Code.wp _ _ _ _ _
   obtain ⟨w2, hw2⟩ : ∃ w, w = w1.drew := ⟨_, rfl⟩
   have G2 : w1.grownBy w2 none := hw2 ▸ grown_drew _
   have Bm_2 := Bm_1.gn G2
   have K_2 := K_1.nw hw G2
   have is_2 := is_1.kt (Kt.of_none G2) (by decide) (by decide) (by decide)
   have kq_2 := kq_1.kt (Kt.of_none G2) (by decide)
   have mq_2 := mq_1.kt (Kt.of_none G2) (by decide)
   refine rg_tree (S := fun w' => Blk w' m 95 #[(.int .u64 n), (.string s.title), (.string s.uri), (.float .f64 (fb s.e)), (.int .i64 s.li), (.int .i64 s.off), (pto kp), (pto mp), (.bool s.disc), (.pointer none), (.string s.date)]) [] 52 hw2 ⟨rfl, by decide⟩ hmix (by kernel_rfl) (by kernel_rfl) (Bm_2) ?_
   clear K_1 is_1 kq_1 mq_1
   have h3_12 := u12.w (u11.w (u10.w (u9.w (u8.w (u7.w h3_6)))))
   refine tree_take (j := 0) rfl (by kernel_rfl) (by kernel_rfl) (by kernel_rfl) (fun w hw => ex_mv h3_12) (Bm_2) F12.l fun a13 u13 h14_13 => ?_
   have F13 := F12.pt u13
   have h5_13 := u13.w (u12.w (u11.w h5_10))
   refine tree_take (j := 1) rfl (by kernel_rfl) (by kernel_rfl) (by kernel_rfl) (fun w hw => ex_mv h5_13) (Bm_2) F13.l fun a14 u14 h15_14 => ?_
   have F14 := F13.pt u14
   refine tree_take (j := 2) rfl (by kernel_rfl) (by kernel_rfl) (by kernel_rfl) (fun w hw => ex_nil h15_14) (Bm_2) F14.l fun a15 u15 h16_15 => ?_
   have F15 := F14.pt u15
   refine tree_take (j := 3) rfl (by kernel_rfl) (by kernel_rfl) (by kernel_rfl) (fun w hw => ex_fb 0 h16_15) (Bm_2) F15.l fun a16 u16 h17_16 => ?_
   have F16 := F15.pt u16
   refine tree_take (j := 4) rfl (by kernel_rfl) (by kernel_rfl) (by kernel_rfl) (fun w hw => ex_le (v := (.int .u64 n)) h17_16 (hw.cell 0)) (Bm_2) F16.l fun a17 u17 h18_17 => ?_
   have F17 := F16.pt u17
   have h5_17 := u17.w (u16.w (u15.w (u14.w h5_13)))
   refine tree_take (j := 5) rfl (by kernel_rfl) (by kernel_rfl) (by kernel_rfl) (fun w hw => ex_mv h5_17) (Bm_2) F17.l fun a18 u18 h19_18 => ?_
   have F18 := F17.pt u18
   refine tree_take (j := 6) rfl (by kernel_rfl) (by kernel_rfl) (by kernel_rfl) (fun w hw => ex_nil h19_18) (Bm_2) F18.l fun a19 u19 h20_19 => ?_
   have F19 := F18.pt u19
   refine tree_take (j := 7) rfl (by kernel_rfl) (by kernel_rfl) (by kernel_rfl) (fun w hw => ex_fb 1 h20_19) (Bm_2) F19.l fun a20 u20 h21_20 => ?_
   have F20 := F19.pt u20
   refine tree_take (j := 8) rfl (by kernel_rfl) (by kernel_rfl) (by kernel_rfl) (fun w hw => ex_le (v := (.string s.title)) h21_20 (hw.cell 1)) (Bm_2) F20.l fun a21 u21 h22_21 => ?_
   have F21 := F20.pt u21
   have h5_21 := u21.w (u20.w (u19.w (u18.w h5_17)))
   refine tree_take (j := 9) rfl (by kernel_rfl) (by kernel_rfl) (by kernel_rfl) (fun w hw => ex_mv h5_21) (Bm_2) F21.l fun a22 u22 h23_22 => ?_
   have F22 := F21.pt u22
   refine tree_take (j := 10) rfl (by kernel_rfl) (by kernel_rfl) (by kernel_rfl) (fun w hw => ex_nil h23_22) (Bm_2) F22.l fun a23 u23 h24_23 => ?_
   have F23 := F22.pt u23
   refine tree_take (j := 11) rfl (by kernel_rfl) (by kernel_rfl) (by kernel_rfl) (fun w hw => ex_fb 2 h24_23) (Bm_2) F23.l fun a24 u24 h25_24 => ?_
   have F24 := F23.pt u24
   refine tree_take (j := 12) rfl (by kernel_rfl) (by kernel_rfl) (by kernel_rfl) (fun w hw => ex_le (v := (.string s.uri)) h25_24 (hw.cell 2)) (Bm_2) F24.l fun a25 u25 h26_25 => ?_
   have F25 := F24.pt u25
   have h5_25 := u25.w (u24.w (u23.w (u22.w h5_21)))
   refine tree_take (j := 13) rfl (by kernel_rfl) (by kernel_rfl) (by kernel_rfl) (fun w hw => ex_mv h5_25) (Bm_2) F25.l fun a26 u26 h27_26 => ?_
   have F26 := F25.pt u26
   refine tree_take (j := 14) rfl (by kernel_rfl) (by kernel_rfl) (by kernel_rfl) (fun w hw => ex_nil h27_26) (Bm_2) F26.l fun a27 u27 h28_27 => ?_
   have F27 := F26.pt u27
   refine tree_take (j := 15) rfl (by kernel_rfl) (by kernel_rfl) (by kernel_rfl) (fun w hw => ex_fb 3 h28_27) (Bm_2) F27.l fun a28 u28 h29_28 => ?_
   have F28 := F27.pt u28
   refine tree_take (j := 16) rfl (by kernel_rfl) (by kernel_rfl) (by kernel_rfl) (fun w hw => ex_le (v := (.float .f64 (fb s.e))) h29_28 (hw.cell 3)) (Bm_2) F28.l fun a29 u29 h30_29 => ?_
   have F29 := F28.pt u29
   have h5_29 := u29.w (u28.w (u27.w (u26.w h5_25)))
   refine tree_take (j := 17) rfl (by kernel_rfl) (by kernel_rfl) (by kernel_rfl) (fun w hw => ex_mv h5_29) (Bm_2) F29.l fun a30 u30 h31_30 => ?_
   have F30 := F29.pt u30
   refine tree_take (j := 18) rfl (by kernel_rfl) (by kernel_rfl) (by kernel_rfl) (fun w hw => ex_nil h31_30) (Bm_2) F30.l fun a31 u31 h32_31 => ?_
   have F31 := F30.pt u31
   refine tree_take (j := 19) rfl (by kernel_rfl) (by kernel_rfl) (by kernel_rfl) (fun w hw => ex_fb 4 h32_31) (Bm_2) F31.l fun a32 u32 h33_32 => ?_
   have F32 := F31.pt u32
   refine tree_take (j := 20) rfl (by kernel_rfl) (by kernel_rfl) (by kernel_rfl) (fun w hw => ex_le (v := (.int .i64 s.li)) h33_32 (hw.cell 4)) (Bm_2) F32.l fun a33 u33 h34_33 => ?_
   have F33 := F32.pt u33
   have h5_33 := u33.w (u32.w (u31.w (u30.w h5_29)))
   refine tree_take (j := 21) rfl (by kernel_rfl) (by kernel_rfl) (by kernel_rfl) (fun w hw => ex_mv h5_33) (Bm_2) F33.l fun a34 u34 h35_34 => ?_
   have F34 := F33.pt u34
   refine tree_take (j := 22) rfl (by kernel_rfl) (by kernel_rfl) (by kernel_rfl) (fun w hw => ex_nil h35_34) (Bm_2) F34.l fun a35 u35 h36_35 => ?_
   have F35 := F34.pt u35
   refine tree_take (j := 23) rfl (by kernel_rfl) (by kernel_rfl) (by kernel_rfl) (fun w hw => ex_fb 5 h36_35) (Bm_2) F35.l fun a36 u36 h37_36 => ?_
   have F36 := F35.pt u36
   refine tree_take (j := 24) rfl (by kernel_rfl) (by kernel_rfl) (by kernel_rfl) (fun w hw => ex_le (v := (.int .i64 s.off)) h37_36 (hw.cell 5)) (Bm_2) F36.l fun a37 u37 h38_37 => ?_
   have F37 := F36.pt u37
   have h5_37 := u37.w (u36.w (u35.w (u34.w h5_33)))
   refine tree_take (j := 25) rfl (by kernel_rfl) (by kernel_rfl) (by kernel_rfl) (fun w hw => ex_mv h5_37) (Bm_2) F37.l fun a38 u38 h39_38 => ?_
   have F38 := F37.pt u38
   refine tree_take (j := 26) rfl (by kernel_rfl) (by kernel_rfl) (by kernel_rfl) (fun w hw => ex_nil h39_38) (Bm_2) F38.l fun a39 u39 h40_39 => ?_
   have F39 := F38.pt u39
   refine tree_take (j := 27) rfl (by kernel_rfl) (by kernel_rfl) (by kernel_rfl) (fun w hw => ex_fb 6 h40_39) (Bm_2) F39.l fun a40 u40 h41_40 => ?_
   have F40 := F39.pt u40
   refine tree_take (j := 28) rfl (by kernel_rfl) (by kernel_rfl) (by kernel_rfl) (fun w hw => ex_le (v := (pto kp)) h41_40 (hw.cell 6)) (Bm_2) F40.l fun a41 u41 h42_41 => ?_
   have F41 := F40.pt u41
   have h5_41 := u41.w (u40.w (u39.w (u38.w h5_37)))
   refine tree_take (j := 30) rfl (by kernel_rfl) (by kernel_rfl) (by kernel_rfl) (fun w hw => ex_mv h5_41) (Bm_2) F41.l fun a42 u42 h44_42 => ?_
   have F42 := F41.pt u42
   refine tree_take (j := 31) rfl (by kernel_rfl) (by kernel_rfl) (by kernel_rfl) (fun w hw => ex_nil h44_42) (Bm_2) F42.l fun a43 u43 h45_43 => ?_
   have F43 := F42.pt u43
   refine tree_take (j := 32) rfl (by kernel_rfl) (by kernel_rfl) (by kernel_rfl) (fun w hw => ex_fb 7 h45_43) (Bm_2) F43.l fun a44 u44 h46_44 => ?_
   have F44 := F43.pt u44
   refine tree_take (j := 33) rfl (by kernel_rfl) (by kernel_rfl) (by kernel_rfl) (fun w hw => ex_le (v := (pto mp)) h46_44 (hw.cell 7)) (Bm_2) F44.l fun a45 u45 h47_45 => ?_
   have F45 := F44.pt u45
   have h5_45 := u45.w (u44.w (u43.w (u42.w h5_41)))
   refine tree_take (j := 35) rfl (by kernel_rfl) (by kernel_rfl) (by kernel_rfl) (fun w hw => ex_mv h5_45) (Bm_2) F45.l fun a46 u46 h49_46 => ?_
   have F46 := F45.pt u46
   refine tree_take (j := 36) rfl (by kernel_rfl) (by kernel_rfl) (by kernel_rfl) (fun w hw => ex_nil h49_46) (Bm_2) F46.l fun a47 u47 h50_47 => ?_
   have F47 := F46.pt u47
   refine tree_take (j := 37) rfl (by kernel_rfl) (by kernel_rfl) (by kernel_rfl) (fun w hw => ex_fb 9 h50_47) (Bm_2) F47.l fun a48 u48 h51_48 => ?_
   have F48 := F47.pt u48
   refine tree_take (j := 38) rfl (by kernel_rfl) (by kernel_rfl) (by kernel_rfl) (fun w hw => ex_le (v := (.pointer none)) h51_48 (hw.cell 9)) (Bm_2) F48.l fun a49 u49 h52_49 => ?_
   have F49 := F48.pt u49
   have h5_49 := u49.w (u48.w (u47.w (u46.w h5_45)))
   refine tree_take (j := 40) rfl (by kernel_rfl) (by kernel_rfl) (by kernel_rfl) (fun w hw => ex_mv h5_49) (Bm_2) F49.l fun a50 u50 h54_50 => ?_
   have F50 := F49.pt u50
   refine tree_take (j := 41) rfl (by kernel_rfl) (by kernel_rfl) (by kernel_rfl) (fun w hw => ex_nil h54_50) (Bm_2) F50.l fun a51 u51 h55_51 => ?_
   have F51 := F50.pt u51
   refine tree_take (j := 42) rfl (by kernel_rfl) (by kernel_rfl) (by kernel_rfl) (fun w hw => ex_fb 8 h55_51) (Bm_2) F51.l fun a52 u52 h56_52 => ?_
   have F52 := F51.pt u52
   refine tree_take (j := 43) rfl (by kernel_rfl) (by kernel_rfl) (by kernel_rfl) (fun w hw => ex_le (v := (.bool s.disc)) h56_52 (hw.cell 8)) (Bm_2) F52.l fun a53 u53 h57_53 => ?_
   have F53 := F52.pt u53
   have h5_53 := u53.w (u52.w (u51.w (u50.w h5_49)))
   refine tree_take (j := 44) rfl (by kernel_rfl) (by kernel_rfl) (by kernel_rfl) (fun w hw => ex_mv h5_53) (Bm_2) F53.l fun a54 u54 h58_54 => ?_
   have F54 := F53.pt u54
   refine tree_take (j := 45) rfl (by kernel_rfl) (by kernel_rfl) (by kernel_rfl) (fun w hw => ex_nil h58_54) (Bm_2) F54.l fun a55 u55 h59_55 => ?_
   have F55 := F54.pt u55
   refine tree_take (j := 46) rfl (by kernel_rfl) (by kernel_rfl) (by kernel_rfl) (fun w hw => ex_fb 10 h59_55) (Bm_2) F55.l fun a56 u56 h60_56 => ?_
   have F56 := F55.pt u56
   refine tree_take (j := 47) rfl (by kernel_rfl) (by kernel_rfl) (by kernel_rfl) (fun w hw => ex_le (v := (.string s.date)) h60_56 (hw.cell 10)) (Bm_2) F56.l fun a57 u57 h61_57 => ?_
   have F57 := F56.pt u57
   refine tree1 (j := 29) (by kernel_rfl) ?_
   have h42_57 := u57.w (u56.w (u55.w (u54.w (u53.w (u52.w (u51.w (u50.w (u49.w (u48.w (u47.w (u46.w (u45.w (u44.w (u43.w (u42.w h42_41)))))))))))))))
   refine tk_cl (args := #[(pto kp)]) (R := fun v w' => KeySl w' v s.key ∧ w2.grownBy w' none) rfl (ex_cl (fun _ _ => by kernel_rfl) (arg1 h42_57)) ((keyof_any kq_2).mono fun _ _ h => h) F57.l ?_
   rintro kv w3 ⟨sk_3, G3⟩
   have Bm_3 := Bm_2.gn G3
   have K_3 := K_2.nw hw G3
   have is_3 := is_2.kt (Kt.of_none G3) (by decide) (by decide) (by decide)
   have kq_3 := kq_2.kt (Kt.of_none G3) (by decide)
   have mq_3 := mq_2.kt (Kt.of_none G3) (by decide)
   obtain ⟨kva, kvn, kvc, rfl⟩ := sk_3.shape
   refine ⟨Bm_3, ?_⟩
   intro a58 u58 h43_58
   have F58 := F57.pt u58
   clear K_2 is_2 kq_2 mq_2
   refine tree1 (j := 34) (by kernel_rfl) ?_
   have h47_58 := u58.w (u57.w (u56.w (u55.w (u54.w (u53.w (u52.w (u51.w (u50.w (u49.w (u48.w (u47.w (u46.w h47_45))))))))))))
   refine tk_cl (args := #[(pto mp)]) (R := fun v w' => MapSl w' v s.map ∧ w3.grownBy w' none) rfl (ex_cl (fun _ _ => by kernel_rfl) (arg1 h47_58)) ((mapof_any mq_3).mono fun _ _ h => h) F58.l ?_
   rintro mv w4 ⟨sm_4, G4⟩
   have Bm_4 := Bm_3.gn G4
   have K_4 := K_3.nw hw G4
   have is_4 := is_3.kt (Kt.of_none G4) (by decide) (by decide) (by decide)
   have kq_4 := kq_3.kt (Kt.of_none G4) (by decide)
   have mq_4 := mq_3.kt (Kt.of_none G4) (by decide)
   have sk_4 := sk_3.kt (Kt.of_none G4) (by decide)
   obtain ⟨mva, mvn, mvc, rfl⟩ := sm_4.shape
   refine ⟨Bm_4, ?_⟩
   intro a59 u59 h48_59
   have F59 := F58.pt u59
   clear K_3 is_3 kq_3 mq_3
   refine tree1 (j := 39) (by kernel_rfl) ?_
   have h52_59 := u59.w (u58.w (u57.w (u56.w (u55.w (u54.w (u53.w (u52.w (u51.w (u50.w h52_49)))))))))
   refine tk_cl (args := #[(.pointer none)]) (R := fun v w' => v = (.slice none 0 0) ∧ w4 = w') rfl (ex_cl (fun _ _ => by kernel_rfl) (arg1 h52_59)) ((cueof_nil).mono fun _ _ h => ⟨_, h.1, rfl, h.2⟩) F59.l ?_
   rintro v w' ⟨rfl, rfl⟩
   refine ⟨Bm_4, ?_⟩
   intro a60 u60 h53_60
   have F60 := F59.pt u60
   have h18_60 := u60.w (u59.w (u58.w (u57.w (u56.w (u55.w (u54.w (u53.w (u52.w (u51.w (u50.w (u49.w (u48.w (u47.w (u46.w (u45.w (u44.w (u43.w (u42.w (u41.w (u40.w (u39.w (u38.w (u37.w (u36.w (u35.w (u34.w (u33.w (u32.w (u31.w (u30.w (u29.w (u28.w (u27.w (u26.w (u25.w (u24.w (u23.w (u22.w (u21.w (u20.w (u19.w (u18.w h18_17))))))))))))))))))))))))))))))))))))))))))
   have h22_60 := u60.w (u59.w (u58.w (u57.w (u56.w (u55.w (u54.w (u53.w (u52.w (u51.w (u50.w (u49.w (u48.w (u47.w (u46.w (u45.w (u44.w (u43.w (u42.w (u41.w (u40.w (u39.w (u38.w (u37.w (u36.w (u35.w (u34.w (u33.w (u32.w (u31.w (u30.w (u29.w (u28.w (u27.w (u26.w (u25.w (u24.w (u23.w (u22.w h22_21))))))))))))))))))))))))))))))))))))))
   have h26_60 := u60.w (u59.w (u58.w (u57.w (u56.w (u55.w (u54.w (u53.w (u52.w (u51.w (u50.w (u49.w (u48.w (u47.w (u46.w (u45.w (u44.w (u43.w (u42.w (u41.w (u40.w (u39.w (u38.w (u37.w (u36.w (u35.w (u34.w (u33.w (u32.w (u31.w (u30.w (u29.w (u28.w (u27.w (u26.w h26_25))))))))))))))))))))))))))))))))))
   have h30_60 := u60.w (u59.w (u58.w (u57.w (u56.w (u55.w (u54.w (u53.w (u52.w (u51.w (u50.w (u49.w (u48.w (u47.w (u46.w (u45.w (u44.w (u43.w (u42.w (u41.w (u40.w (u39.w (u38.w (u37.w (u36.w (u35.w (u34.w (u33.w (u32.w (u31.w (u30.w h30_29))))))))))))))))))))))))))))))
   have h34_60 := u60.w (u59.w (u58.w (u57.w (u56.w (u55.w (u54.w (u53.w (u52.w (u51.w (u50.w (u49.w (u48.w (u47.w (u46.w (u45.w (u44.w (u43.w (u42.w (u41.w (u40.w (u39.w (u38.w (u37.w (u36.w (u35.w (u34.w h34_33))))))))))))))))))))))))))
   have h38_60 := u60.w (u59.w (u58.w (u57.w (u56.w (u55.w (u54.w (u53.w (u52.w (u51.w (u50.w (u49.w (u48.w (u47.w (u46.w (u45.w (u44.w (u43.w (u42.w (u41.w (u40.w (u39.w (u38.w h38_37))))))))))))))))))))))
   have h57_60 := u60.w (u59.w (u58.w (u57.w (u56.w (u55.w (u54.w h57_53))))))
   have h61_60 := u60.w (u59.w (u58.w h61_57))
   refine tree_take (j := 48) rfl (by kernel_rfl) (by kernel_rfl) (by kernel_rfl) (fun w hw => ex_bd (w' := w) (vs :=  #[(0, (.int .u64 n)), (1, (.string s.title)), (2, (.string s.uri)), (3, (.float .f64 (fb s.e))), (4, (.int .i64 s.li)), (5, (.int .i64 s.off)), (6, (.slice kva kvn kvc)), (7, (.slice mva mvn mvc)), (8, (.slice none 0 0)), (9, (.bool s.disc)), (10, (.string s.date))]) (v := (.agg #[(.int .u64 n), (.string s.title), (.string s.uri), (.float .f64 (fb s.e)), (.int .i64 s.li), (.int .i64 s.off), (.slice kva kvn kvc), (.slice mva mvn mvc), (.slice none 0 0), (.bool s.disc), (.string s.date)])) (by have e0 : a60.eval (.tmp 18) = (.int .u64 n) := h18_60; have e1 : a60.eval (.tmp 22) = (.string s.title) := h22_60; have e2 : a60.eval (.tmp 26) = (.string s.uri) := h26_60; have e3 : a60.eval (.tmp 30) = (.float .f64 (fb s.e)) := h30_60; have e4 : a60.eval (.tmp 34) = (.int .i64 s.li) := h34_60; have e5 : a60.eval (.tmp 38) = (.int .i64 s.off) := h38_60; have e6 : a60.eval (.tmp 43) = (.slice kva kvn kvc) := (u60.w (u59.w h43_58)); have e7 : a60.eval (.tmp 48) = (.slice mva mvn mvc) := (u60.w h48_59); have e8 : a60.eval (.tmp 53) = (.slice none 0 0) := h53_60; have e9 : a60.eval (.tmp 57) = (.bool s.disc) := h57_60; have e10 : a60.eval (.tmp 61) = (.string s.date) := h61_60; simp only [List.map_toArray, List.map_cons, List.map_nil, e0, e1, e2, e3, e4, e5, e6, e7, e8, e9, e10]) (by kernel_rfl)) (Bm_4) F60.l fun a61 u61 h62_61 => ?_
   have F61 := F60.pt u61
   refine tree1 (j := 49) (by kernel_rfl) ?_
   obtain ⟨gx, hgx⟩ : ∃ g, w4.heap.size = g := ⟨_, rfl⟩
   have ne_m_x : m ≠ gx := by have := Bm_4.lt; omega
   obtain ⟨w5, hr5, Bx_5, G5, hs5⟩ := bs_run (op := Instr.buildSlice 65 1 #[(0, (.agg #[(.int .u64 n), (.string s.title), (.string s.uri), (.float .f64 (fb s.e)), (.int .i64 s.li), (.int .i64 s.off), (.slice kva kvn kvc), (.slice mva mvn mvc), (.slice none 0 0), (.bool s.disc), (.string s.date)]))]) (n := 1) (T := 40) (cs := #[(.int .u64 n), (.string s.title), (.string s.uri), (.float .f64 (fb s.e)), (.int .i64 s.li), (.int .i64 s.off), (.slice kva kvn kvc), (.slice mva mvn mvc), (.slice none 0 0), (.bool s.disc), (.string s.date)]) hgx (fun _ => by kernel_rfl)
   have Bm_5 := Bm_4.gn G5
   have K_5 := K_4.nw hw G5
   have is_5 := is_4.kt (Kt.of_none G5) (by decide) (by decide) (by decide)
   have kq_5 := kq_4.kt (Kt.of_none G5) (by decide)
   have mq_5 := mq_4.kt (Kt.of_none G5) (by decide)
   have sk_5 := sk_4.kt (Kt.of_none G5) (by decide)
   have sm_5 := sm_4.kt (Kt.of_none G5) (by decide)
   refine tk_p rfl (ex_bs (vs := #[(0, (.agg #[(.int .u64 n), (.string s.title), (.string s.uri), (.float .f64 (fb s.e)), (.int .i64 s.li), (.int .i64 s.off), (.slice kva kvn kvc), (.slice mva mvn mvc), (.slice none 0 0), (.bool s.disc), (.string s.date)]))]) (by have e0 : a61.eval (.tmp 62) = (.agg #[(.int .u64 n), (.string s.title), (.string s.uri), (.float .f64 (fb s.e)), (.int .i64 s.li), (.int .i64 s.off), (.slice kva kvn kvc), (.slice mva mvn mvc), (.slice none 0 0), (.bool s.disc), (.string s.date)]) := h62_61; simp only [List.map_toArray, List.map_cons, List.map_nil, e0]) hr5) (Bm_5) F61.l fun a62 u62 (h63_62 : a62.tmps.getD 63 undef = (.slice (some ⟨gx, 0, none⟩) 1 1)) => ?_
   have F62 := F61.pt u62
   clear K_4 is_4 kq_4 mq_4 hgx
   refine tree1 (j := 50) (by kernel_rfl) ?_
   obtain ⟨v6, w6, hr6, is_6, G6⟩ := ISR.push (n := n) (s := s) (kv := .slice kva kvn kvc) (mv := .slice mva mvn mvc) (ty := 65) (c := 1) is_5 Bx_5 sk_5 sm_5 (K_5.le hw) (by rw [List.length_take]; omega)
   have KR6 := is_5.ktof G6
   have Bm_6 := Bm_5.kt KR6 (by decide)
   have K_6 := is_5.ktr K_5 hw (Nat.le_refl _) (by decide) G6
   have kq_6 := kq_5.kt KR6 (by decide)
   have mq_6 := mq_5.kt KR6 (by decide)
   have sk_6 := sk_5.kt KR6 (by decide)
   have sm_6 := sm_5.kt KR6 (by decide)
   have h14_62 := u62.w (u61.w (u60.w (u59.w (u58.w (u57.w (u56.w (u55.w (u54.w (u53.w (u52.w (u51.w (u50.w (u49.w (u48.w (u47.w (u46.w (u45.w (u44.w (u43.w (u42.w (u41.w (u40.w (u39.w (u38.w (u37.w (u36.w (u35.w (u34.w (u33.w (u32.w (u31.w (u30.w (u29.w (u28.w (u27.w (u26.w (u25.w (u24.w (u23.w (u22.w (u21.w (u20.w (u19.w (u18.w (u17.w (u16.w (u15.w (u14.w h14_13))))))))))))))))))))))))))))))))))))))))))))))))
   refine tk_p rfl (ex_app h14_62 h63_62 hr6) (Bm_6) F62.l fun a63 u63 (h64_63 : a63.tmps.getD 64 undef = v6) => ?_
   have F63 := F62.pt u63
   clear KR6 K_5 is_5 kq_5 mq_5
   refine tree_take (j := 51) rfl (by kernel_rfl) (by kernel_rfl) (by kernel_rfl) (fun w hw => ex_as h64_63) (Bm_6) F63.l fun a64 u64 h3_64 => ?_
   have F64 := F63.pt u64
   refine tree0 (by kernel_rfl) ?_
   change Code.wp _ _ _ _ _
   refine rg_list ?_
   have h8_64 := u64.w (u63.w (u62.w (u61.w (u60.w (u59.w (u58.w (u57.w (u56.w (u55.w (u54.w (u53.w (u52.w (u51.w (u50.w (u49.w (u48.w (u47.w (u46.w (u45.w (u44.w (u43.w (u42.w (u41.w (u40.w (u39.w (u38.w (u37.w (u36.w (u35.w (u34.w (u33.w (u32.w (u31.w (u30.w (u29.w (u28.w (u27.w (u26.w (u25.w (u24.w (u23.w (u22.w (u21.w (u20.w (u19.w (u18.w (u17.w (u16.w (u15.w (u14.w (u13.w (u12.w (u11.w (u10.w (u9.w (u8.w (u7.w h8_6)))))))))))))))))))))))))))))))))))))))))))))))))))))))))
   refine wl_pq F64 (ex_bin (vy := (.int .i64 1)) (v := (.int .i64 (j + 1 : Nat))) h8_64 rfl (bo_addn j 1 (by omega) _)) fun a65 u65 F65 h65_65 => ?_
   refine wl_pq F65 (ex_mv h65_65) fun a66 u66 F66 h8_66 => ?_
   have h6_66 := u66.w (u65.w (u64.w (u63.w (u62.w (u61.w (u60.w (u59.w (u58.w (u57.w (u56.w (u55.w (u54.w (u53.w (u52.w (u51.w (u50.w (u49.w (u48.w (u47.w (u46.w (u45.w (u44.w (u43.w (u42.w (u41.w (u40.w (u39.w (u38.w (u37.w (u36.w (u35.w (u34.w (u33.w (u32.w (u31.w (u30.w (u29.w (u28.w (u27.w (u26.w (u25.w (u24.w (u23.w (u22.w (u21.w (u20.w (u19.w (u18.w (u17.w (u16.w (u15.w (u14.w (u13.w (u12.w (u11.w (u10.w (u9.w (u8.w (u7.w h6_6)))))))))))))))))))))))))))))))))))))))))))))))))))))))))))
   have h7_66 := u66.w (u65.w (u64.w (u63.w (u62.w (u61.w (u60.w (u59.w (u58.w (u57.w (u56.w (u55.w (u54.w (u53.w (u52.w (u51.w (u50.w (u49.w (u48.w (u47.w (u46.w (u45.w (u44.w (u43.w (u42.w (u41.w (u40.w (u39.w (u38.w (u37.w (u36.w (u35.w (u34.w (u33.w (u32.w (u31.w (u30.w (u29.w (u28.w (u27.w (u26.w (u25.w (u24.w (u23.w (u22.w (u21.w (u20.w (u19.w (u18.w (u17.w (u16.w (u15.w (u14.w (u13.w (u12.w (u11.w (u10.w (u9.w (u8.w (u7.w h7_6)))))))))))))))))))))))))))))))))))))))))))))))))))))))))))
   exact hR _ _ ⟨v6, F66, h8_66, h6_66, h7_66, (u66.w (u65.w h3_64)), K_6, (by rw [List.take_add_one, zip_at hn hs]; exact is_6)⟩
 · clear K_0
   intro a6 w1 ⟨ov, F6, h8_6, h6_6, h7_6, h3_6, K_1, is_1⟩
   refine wp_sr ?_
   refine wl_pq F6 (ex_bin (v := (.bool false)) h8_6 h7_6 ((bo_ltn ms.length ms.length _).trans (by rw [decide_eq_false (by omega)]))) fun a7 u7 F7 h9_7 => ?_
   change Code.wp _ _ _ _ _
   refine wp_seq ?_
   refine wp_cond_false h9_7 ?_
   refine wp_exit ?_
   try simp only [Exit.then]
   refine inBlock_exit ?_
   change Code.wp _ _ _ _ _
   refine wp_sr ?_
   refine wl_pq F7 (ex_mv (u7.w h3_6)) fun a8 u8 F8 h66_8 => ?_
   refine wl_pq F8 (ex_as h66_8) fun a9 u9 F9 h2_9 => ?_
   change Code.wp _ _ _ _ _
   refine wp_ret ?_
   try simp only [Exit.then, Exit.inBlock]
   exact bodyPost_ret (v := ov) ((results_tmp rfl _ _ _).trans (by rw [h2_9])) F9.defers ⟨_, rfl, by rw [← hlz, List.take_length] at is_1; exact is_1, K_1⟩
end Go.Proofs.YtdpebhlkgmopkaaDoor
