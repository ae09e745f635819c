/-
 FnSteps: the law's comparisons.
-/
import Derived.Test.YtdpebhlkgmopkaaDoorStp
namespace Go.Proofs.YtdpebhlkgmopkaaDoor
open Go.RowKit
set_option maxRecDepth 100000
section
variable {x y : Operand}
theorem eq_key (a b c d e : ByteArray) (w : World) : (do eqGuard .eql 78 x y (.agg #[.string a, .string b, .string c, .string d, .string e]) (.agg #[.string a, .string b, .string c, .string d, .string e]); binOp .eql 78 (.agg #[.string a, .string b, .string c, .string d, .string e]) (.agg #[.string a, .string b, .string c, .string d, .string e]) : Sem Value).run Tryd.prog w = .ok (.bool true) w := by
 have hg : (eqGuard .eql 78 x y (.agg #[.string a, .string b, .string c, .string d, .string e]) (.agg #[.string a, .string b, .string c, .string d, .string e])).run Tryd.prog w = .ok () w := by kernel_rfl
 simp only [Sem.run_bind, hg, Result.andThen_ok]
 simp [go_sem]
theorem eq_map (a : ByteArray) (b c : Nat) (w : World) : (do eqGuard .eql 80 x y (.agg #[.string a, .int .i64 b, .int .i64 c]) (.agg #[.string a, .int .i64 b, .int .i64 c]); binOp .eql 80 (.agg #[.string a, .int .i64 b, .int .i64 c]) (.agg #[.string a, .int .i64 b, .int .i64 c]) : Sem Value).run Tryd.prog w = .ok (.bool true) w := by
 have hg : (eqGuard .eql 80 x y (.agg #[.string a, .int .i64 b, .int .i64 c]) (.agg #[.string a, .int .i64 b, .int .i64 c])).run Tryd.prog w = .ok () w := by kernel_rfl
 simp only [Sem.run_bind, hg, Result.andThen_ok]
 simp [go_sem]
theorem eq_str (a : ByteArray) (w : World) : (do eqGuard .eql 9 x y (.string a) (.string a); binOp .eql 9 (.string a) (.string a) : Sem Value).run Tryd.prog w = .ok (.bool true) w := by
 simp [go_sem]
theorem eq_int {T : TypeId} {k : IntKind} (a : Nat) (w : World) : (do eqGuard .eql T x y (.int k a) (.int k a); binOp .eql T (.int k a) (.int k a) : Sem Value).run Tryd.prog w = .ok (.bool true) w := by
 simp [go_sem]
theorem ne_int {T : TypeId} {k : IntKind} (a : Nat) (w : World) : (do eqGuard .neq T x y (.int k a) (.int k a); binOp .neq T (.int k a) (.int k a) : Sem Value).run Tryd.prog w = .ok (.bool false) w := by
 simp [go_sem]
theorem eq_bool (a : Bool) (w : World) : (do eqGuard .eql 4 x y (.bool a) (.bool a); binOp .eql 4 (.bool a) (.bool a) : Sem Value).run Tryd.prog w = .ok (.bool true) w := by
 cases a <;> kernel_rfl
theorem ne_bool (a : Bool) (w : World) : (do eqGuard .neq 4 x y (.bool a) (.bool a); binOp .neq 4 (.bool a) (.bool a) : Sem Value).run Tryd.prog w = .ok (.bool false) w := by
 cases a <;> kernel_rfl
theorem fo_eq (m n : Nat) (w : World) : (do eqGuard .eql 35 x y (.float .f64 m) (.float .f64 n); binOp .eql 35 (.float .f64 m) (.float .f64 n) : Sem Value).run Tryd.prog w = .ok (.bool (FloatKind.f64.format.order m n == some .eq)) w := by
 simp [go_sem]
theorem fo_ne (m n : Nat) (w : World) : (do eqGuard .neq 35 x y (.float .f64 m) (.float .f64 n); binOp .neq 35 (.float .f64 m) (.float .f64 n) : Sem Value).run Tryd.prog w = .ok (.bool (!(FloatKind.f64.format.order m n == some .eq))) w := by
 simp [go_sem]
 rfl
theorem fo_mul (m r : Nat) (h : FloatKind.f64.format.mul m 4620693217682128896 = some r) (w : World) : (do eqGuard .mul 35 x y (.float .f64 m) (.float .f64 4620693217682128896); binOp .mul 35 (.float .f64 m) (.float .f64 4620693217682128896) : Sem Value).run Tryd.prog w = .ok (.float .f64 r) w := by
 have h2 := run_float_arith (P := Tryd.prog) w .mul 35 .f64 m 4620693217682128896 r h
 simpa [go_sem] using h2
end
theorem skeys_none {w0 : World} : Calls Tryd.prog 20 #[.slice none 0 0, .pointer none] w0 fun e w' => e = .returned (.bool true) ∧ w0.grownBy w' none := by
 refine calls_of_wp Tryd.func20 rfl ?_
 generalize hA : Act.mk _ _ = a0
 have F0 : Fz 40 a0 := by subst hA; exact ⟨by simp [Tryd.ntmps20], rfl⟩
 have h0_0 : a0.tmps.getD 0 undef = (.slice none 0 0) := by subst hA; exact fr_arg rfl
 have h1_0 : a0.tmps.getD 1 undef = (.pointer none) := by subst hA; exact fr_arg rfl
 refine wp_sr ?_
 refine wl_pq F0 (ex_as (v := (.bool false)) rfl) fun a1 u1 F1 h4_1 => ?_
 change Code.wp _ _ _ _ _
 refine wp_seq ?_
 refine wp_sr ?_
 refine wl_pq F1 (ex_mv (u1.w h1_0)) fun a2 u2 F2 h5_2 => ?_
 refine wl_pq F2 (ex_bin (vy := (.pointer none)) (v := (.bool true)) h5_2 rfl (by kernel_rfl)) fun a3 u3 F3 h6_3 => ?_
 change Code.wp _ _ _ _ _
 refine wp_cond_true h6_3 ?_
 refine wp_sr ?_
 have h0_3 := u3.w (u2.w (u1.w h0_0))
 refine wl_pq F3 (ex_mv h0_3) fun a4 u4 F4 h7_4 => ?_
 refine wl_pq F4 (ex_bi (w' := w0) (args := #[(.slice none 0 0)]) (v := (.int .i64 0)) (arg1 h7_4) (by kernel_rfl)) fun a5 u5 F5 h8_5 => ?_
 refine wl_pq F5 (ex_bin (vy := (.int .i64 0)) (v := (.bool true)) h8_5 rfl (by kernel_rfl)) fun a6 u6 F6 h9_6 => ?_
 refine wl_pq F6 (ex_as h9_6) fun a7 u7 F7 h4_7 => ?_
 change Code.wp _ _ _ _ _
 refine wp_ret ?_
 try simp only [Exit.then, Exit.inBlock]
 exact bodyPost_ret (v := (.bool true)) ((results_tmp rfl _ _ _).trans (by rw [h4_7])) F7.defers ⟨rfl, grown_refl _ _⟩
theorem skeys_some {gi gs : Nat} {q : KeyD} {w0 : World} (Bi_0 : Blk w0 gi 78 #[(.string q.me), (.string q.uri), (.string q.iv), (.string q.fo), (.string q.ve)]) (Bs_0 : Blk w0 gs 56 #[(.string q.me), (.string q.uri), (.string q.iv), (.string q.fo), (.string q.ve)]) : Calls Tryd.prog 20 #[.slice (some ⟨gi, 0, none⟩) 1 1, pt gs] w0 fun e w' => e = .returned (.bool true) ∧ w0.grownBy w' none := by
 refine calls_of_wp Tryd.func20 rfl ?_
 generalize hA : Act.mk _ _ = a0
 have F0 : Fz 40 a0 := by subst hA; exact ⟨by simp [Tryd.ntmps20], rfl⟩
 have h0_0 : a0.tmps.getD 0 undef = (.slice (some ⟨gi, 0, none⟩) 1 1) := by subst hA; exact fr_arg rfl
 have h1_0 : a0.tmps.getD 1 undef = (.pointer (some ⟨gs, 0, none⟩)) := by subst hA; exact fr_arg rfl
 have Q_0 := grown_refl w0 none
 refine wp_sr ?_
 refine wl_pq F0 (ex_as (v := (.bool false)) rfl) fun a1 u1 F1 h4_1 => ?_
 change Code.wp _ _ _ _ _
 refine wp_seq ?_
 refine wp_sr ?_
 refine wl_pq F1 (ex_mv (u1.w h1_0)) fun a2 u2 F2 h5_2 => ?_
 refine wl_pq F2 (ex_bin (vy := (.pointer none)) (v := (.bool false)) h5_2 rfl (by kernel_rfl)) fun a3 u3 F3 h6_3 => ?_
 change Code.wp _ _ _ _ _
 refine wp_cond_false h6_3 ?_
 refine wp_skip ?_
 change Code.wp _ _ _ _ _
 refine wp_seq ?_
 obtain ⟨w1, hw1⟩ : ∃ w, w = w0.drew := ⟨_, rfl⟩
 have G1 : w0.grownBy w1 none := hw1 ▸ grown_drew _
 have Bi_1 := Bi_0.gn G1
 have Bs_1 := Bs_0.gn G1
 have Q_1 := grown_trans Q_0 G1
 refine rg_still hw1 hmix (by kernel_rfl) ?_
 clear Q_0
 have h0_3 := u3.w (u2.w (u1.w h0_0))
 refine st_pq F3 (ex_mv h0_3) fun a4 u4 F4 h10_4 => ?_
 refine st_pq F4 (ex_bi (w' := w1) (args := #[(.slice (some ⟨gi, 0, none⟩) 1 1)]) (v := (.int .i64 1)) (arg1 h10_4) (by kernel_rfl)) fun a5 u5 F5 h11_5 => ?_
 refine st_pq F5 (ex_bin (vy := (.int .i64 1)) (v := (.bool true)) h11_5 rfl (by kernel_rfl)) fun a6 u6 F6 h12_6 => ?_
 refine st_pq F6 (ex_mv h12_6) fun a7 u7 F7 h13_7 => ?_
 have h0_7 := u7.w (u6.w (u5.w (u4.w h0_3)))
 refine st_g (yl (e := 13) rfl h13_7) (ex_mv h0_7) F7.l fun a8 u8 h14_8 => ?_
 have F8 := F7.pt u8
 refine st_g (yl (e := 13) rfl (u8.w h13_7)) (ex_ixg (vx := (.slice (some ⟨gi, 0, none⟩) 1 1)) (vy := (.int .i64 0)) (v := (.pointer (some ⟨gi, 0, none⟩))) h14_8 rfl (by kernel_rfl)) F8.l fun a9 u9 h15_9 => ?_
 have F9 := F8.pt u9
 refine st_g (yl (e := 13) rfl (u9.w (u8.w h13_7))) (ex_lda h15_9 (ld_agg (n := 5) (xs := #[(.string q.me), (.string q.uri), (.string q.iv), (.string q.fo), (.string q.ve)]) (fun _ => by kernel_rfl) (fun _ => by kernel_rfl) Bi_1 rfl (fun _ _ => by rw [Nat.zero_add] <;> rfl))) F9.l fun a10 u10 (h16_10 : a10.tmps.getD 16 undef = (.agg #[(.string q.me), (.string q.uri), (.string q.iv), (.string q.fo), (.string q.ve)])) => ?_
 have F10 := F9.pt u10
 have h13_10 := u10.w (u9.w (u8.w h13_7))
 have h1_10 := u10.w (u9.w (u8.w (u7.w (u6.w (u5.w (u4.w (u3.w (u2.w (u1.w h1_0)))))))))
 refine st_g (yl (e := 13) rfl h13_10) (ex_mv h1_10) F10.l fun a11 u11 h17_11 => ?_
 have F11 := F10.pt u11
 refine st_g (yl (e := 13) rfl (u11.w h13_10)) (ex_nil h17_11) F11.l fun a12 u12 h18_12 => ?_
 have F12 := F11.pt u12
 refine st_g (yl (e := 13) rfl (u12.w (u11.w h13_10))) (ex_fb 0 h18_12) F12.l fun a13 u13 h19_13 => ?_
 have F13 := F12.pt u13
 have h13_13 := u13.w (u12.w (u11.w h13_10))
 refine st_g (yl (e := 13) rfl h13_13) (ex_le (v := (.string q.me)) h19_13 (Bs_1.cell 0)) F13.l fun a14 u14 h20_14 => ?_
 have F14 := F13.pt u14
 have h1_14 := u14.w (u13.w (u12.w (u11.w h1_10)))
 refine st_g (yl (e := 13) rfl (u14.w h13_13)) (ex_mv h1_14) F14.l fun a15 u15 h21_15 => ?_
 have F15 := F14.pt u15
 refine st_g (yl (e := 13) rfl (u15.w (u14.w h13_13))) (ex_nil h21_15) F15.l fun a16 u16 h22_16 => ?_
 have F16 := F15.pt u16
 have h13_16 := u16.w (u15.w (u14.w h13_13))
 refine st_g (yl (e := 13) rfl h13_16) (ex_fb 1 h22_16) F16.l fun a17 u17 h23_17 => ?_
 have F17 := F16.pt u17
 refine st_g (yl (e := 13) rfl (u17.w h13_16)) (ex_le (v := (.string q.uri)) h23_17 (Bs_1.cell 1)) F17.l fun a18 u18 h24_18 => ?_
 have F18 := F17.pt u18
 have h1_18 := u18.w (u17.w (u16.w (u15.w h1_14)))
 refine st_g (yl (e := 13) rfl (u18.w (u17.w h13_16))) (ex_mv h1_18) F18.l fun a19 u19 h25_19 => ?_
 have F19 := F18.pt u19
 have h13_19 := u19.w (u18.w (u17.w h13_16))
 refine st_g (yl (e := 13) rfl h13_19) (ex_nil h25_19) F19.l fun a20 u20 h26_20 => ?_
 have F20 := F19.pt u20
 refine st_g (yl (e := 13) rfl (u20.w h13_19)) (ex_fb 2 h26_20) F20.l fun a21 u21 h27_21 => ?_
 have F21 := F20.pt u21
 refine st_g (yl (e := 13) rfl (u21.w (u20.w h13_19))) (ex_le (v := (.string q.iv)) h27_21 (Bs_1.cell 2)) F21.l fun a22 u22 h28_22 => ?_
 have F22 := F21.pt u22
 have h13_22 := u22.w (u21.w (u20.w h13_19))
 have h1_22 := u22.w (u21.w (u20.w (u19.w h1_18)))
 refine st_g (yl (e := 13) rfl h13_22) (ex_mv h1_22) F22.l fun a23 u23 h29_23 => ?_
 have F23 := F22.pt u23
 refine st_g (yl (e := 13) rfl (u23.w h13_22)) (ex_nil h29_23) F23.l fun a24 u24 h30_24 => ?_
 have F24 := F23.pt u24
 refine st_g (yl (e := 13) rfl (u24.w (u23.w h13_22))) (ex_fb 3 h30_24) F24.l fun a25 u25 h31_25 => ?_
 have F25 := F24.pt u25
 have h13_25 := u25.w (u24.w (u23.w h13_22))
 refine st_g (yl (e := 13) rfl h13_25) (ex_le (v := (.string q.fo)) h31_25 (Bs_1.cell 3)) F25.l fun a26 u26 h32_26 => ?_
 have F26 := F25.pt u26
 have h1_26 := u26.w (u25.w (u24.w (u23.w h1_22)))
 refine st_g (yl (e := 13) rfl (u26.w h13_25)) (ex_mv h1_26) F26.l fun a27 u27 h33_27 => ?_
 have F27 := F26.pt u27
 refine st_g (yl (e := 13) rfl (u27.w (u26.w h13_25))) (ex_nil h33_27) F27.l fun a28 u28 h34_28 => ?_
 have F28 := F27.pt u28
 have h13_28 := u28.w (u27.w (u26.w h13_25))
 refine st_g (yl (e := 13) rfl h13_28) (ex_fb 4 h34_28) F28.l fun a29 u29 h35_29 => ?_
 have F29 := F28.pt u29
 refine st_g (yl (e := 13) rfl (u29.w h13_28)) (ex_le (v := (.string q.ve)) h35_29 (Bs_1.cell 4)) F29.l fun a30 u30 h36_30 => ?_
 have F30 := F29.pt u30
 have h20_30 := u30.w (u29.w (u28.w (u27.w (u26.w (u25.w (u24.w (u23.w (u22.w (u21.w (u20.w (u19.w (u18.w (u17.w (u16.w (u15.w h20_14)))))))))))))))
 have h24_30 := u30.w (u29.w (u28.w (u27.w (u26.w (u25.w (u24.w (u23.w (u22.w (u21.w (u20.w (u19.w h24_18)))))))))))
 have h28_30 := u30.w (u29.w (u28.w (u27.w (u26.w (u25.w (u24.w (u23.w h28_22)))))))
 have h32_30 := u30.w (u29.w (u28.w (u27.w h32_26)))
 refine st_g (yl (e := 13) rfl (u30.w (u29.w h13_28))) (ex_bd (w' := w1) (vs :=  #[(0, (.string q.me)), (1, (.string q.uri)), (2, (.string q.iv)), (3, (.string q.fo)), (4, (.string q.ve))]) (v := (.agg #[(.string q.me), (.string q.uri), (.string q.iv), (.string q.fo), (.string q.ve)])) (by have e0 : a30.eval (.tmp 20) = (.string q.me) := h20_30; have e1 : a30.eval (.tmp 24) = (.string q.uri) := h24_30; have e2 : a30.eval (.tmp 28) = (.string q.iv) := h28_30; have e3 : a30.eval (.tmp 32) = (.string q.fo) := h32_30; have e4 : a30.eval (.tmp 36) = (.string q.ve) := h36_30; simp only [List.map_toArray, List.map_cons, List.map_nil, e0, e1, e2, e3, e4]) (by kernel_rfl)) F30.l fun a31 u31 h37_31 => ?_
 have F31 := F30.pt u31
 have h13_31 := u31.w (u30.w (u29.w h13_28))
 have h16_31 := u31.w (u30.w (u29.w (u28.w (u27.w (u26.w (u25.w (u24.w (u23.w (u22.w (u21.w (u20.w (u19.w (u18.w (u17.w (u16.w (u15.w (u14.w (u13.w (u12.w (u11.w h16_10))))))))))))))))))))
 refine st_g (yl (e := 13) rfl h13_31) (ex_bin (v := (.bool true)) h16_31 h37_31 (eq_key q.me q.uri q.iv q.fo q.ve _)) F31.l fun a32 u32 h38_32 => ?_
 have F32 := F31.pt u32
 refine st_pq F32 (ex_pick (q := true) (u32.w h13_31) h38_32) fun a33 u33 F33 h39_33 => ?_
 refine st_pq F33 (ex_as h39_33) fun a34 u34 F34 h4_34 => ?_
 change Code.wp _ _ _ _ _
 refine wp_ret ?_
 try simp only [Exit.then, Exit.inBlock]
 exact bodyPost_ret (v := (.bool true)) ((results_tmp rfl _ _ _).trans (by rw [h4_34])) F34.defers ⟨rfl, Q_1⟩
theorem skeys_any {v : Value} {kp : Option Nat} {k : Option KeyD} {w0 : World} (h : KeySl w0 v k) (h2 : SKey w0 kp k) : Calls Tryd.prog 20 #[v, pto kp] w0 fun e w' => e = .returned (.bool true) ∧ w0.grownBy w' none := by
 cases h with
 | nil => cases h2 with
   | nil => exact skeys_none
 | mk h ok => cases h2 with
   | mk h2 ok2 => exact skeys_some h h2
theorem smaps_none {w0 : World} : Calls Tryd.prog 21 #[.slice none 0 0, .pointer none] w0 fun e w' => e = .returned (.bool true) ∧ w0.grownBy w' none := by
 refine calls_of_wp Tryd.func21 rfl ?_
 generalize hA : Act.mk _ _ = a0
 have F0 : Fz 32 a0 := by subst hA; exact ⟨by simp [Tryd.ntmps21], rfl⟩
 have h0_0 : a0.tmps.getD 0 undef = (.slice none 0 0) := by subst hA; exact fr_arg rfl
 have h1_0 : a0.tmps.getD 1 undef = (.pointer none) := by subst hA; exact fr_arg rfl
 refine wp_sr ?_
 refine wl_pq F0 (ex_as (v := (.bool false)) rfl) fun a1 u1 F1 h4_1 => ?_
 change Code.wp _ _ _ _ _
 refine wp_seq ?_
 refine wp_sr ?_
 refine wl_pq F1 (ex_mv (u1.w h1_0)) fun a2 u2 F2 h5_2 => ?_
 refine wl_pq F2 (ex_bin (vy := (.pointer none)) (v := (.bool true)) h5_2 rfl (by kernel_rfl)) fun a3 u3 F3 h6_3 => ?_
 change Code.wp _ _ _ _ _
 refine wp_cond_true h6_3 ?_
 refine wp_sr ?_
 have h0_3 := u3.w (u2.w (u1.w h0_0))
 refine wl_pq F3 (ex_mv h0_3) fun a4 u4 F4 h7_4 => ?_
 refine wl_pq F4 (ex_bi (w' := w0) (args := #[(.slice none 0 0)]) (v := (.int .i64 0)) (arg1 h7_4) (by kernel_rfl)) fun a5 u5 F5 h8_5 => ?_
 refine wl_pq F5 (ex_bin (vy := (.int .i64 0)) (v := (.bool true)) h8_5 rfl (by kernel_rfl)) fun a6 u6 F6 h9_6 => ?_
 refine wl_pq F6 (ex_as h9_6) fun a7 u7 F7 h4_7 => ?_
 change Code.wp _ _ _ _ _
 refine wp_ret ?_
 try simp only [Exit.then, Exit.inBlock]
 exact bodyPost_ret (v := (.bool true)) ((results_tmp rfl _ _ _).trans (by rw [h4_7])) F7.defers ⟨rfl, grown_refl _ _⟩
theorem smaps_some {gi gs : Nat} {q : MapD} {w0 : World} (Bi_0 : Blk w0 gi 80 #[(.string q.uri), (.int .i64 q.li), (.int .i64 q.off)]) (Bs_0 : Blk w0 gs 61 #[(.string q.uri), (.int .i64 q.li), (.int .i64 q.off)]) : Calls Tryd.prog 21 #[.slice (some ⟨gi, 0, none⟩) 1 1, pt gs] w0 fun e w' => e = .returned (.bool true) ∧ w0.grownBy w' none := by
 refine calls_of_wp Tryd.func21 rfl ?_
 generalize hA : Act.mk _ _ = a0
 have F0 : Fz 32 a0 := by subst hA; exact ⟨by simp [Tryd.ntmps21], rfl⟩
 have h0_0 : a0.tmps.getD 0 undef = (.slice (some ⟨gi, 0, none⟩) 1 1) := by subst hA; exact fr_arg rfl
 have h1_0 : a0.tmps.getD 1 undef = (.pointer (some ⟨gs, 0, none⟩)) := by subst hA; exact fr_arg rfl
 have Q_0 := grown_refl w0 none
 refine wp_sr ?_
 refine wl_pq F0 (ex_as (v := (.bool false)) rfl) fun a1 u1 F1 h4_1 => ?_
 change Code.wp _ _ _ _ _
 refine wp_seq ?_
 refine wp_sr ?_
 refine wl_pq F1 (ex_mv (u1.w h1_0)) fun a2 u2 F2 h5_2 => ?_
 refine wl_pq F2 (ex_bin (vy := (.pointer none)) (v := (.bool false)) h5_2 rfl (by kernel_rfl)) fun a3 u3 F3 h6_3 => ?_
 change Code.wp _ _ _ _ _
 refine wp_cond_false h6_3 ?_
 refine wp_skip ?_
 change Code.wp _ _ _ _ _
 refine wp_seq ?_
 obtain ⟨w1, hw1⟩ : ∃ w, w = w0.drew := ⟨_, rfl⟩
 have G1 : w0.grownBy w1 none := hw1 ▸ grown_drew _
 have Bi_1 := Bi_0.gn G1
 have Bs_1 := Bs_0.gn G1
 have Q_1 := grown_trans Q_0 G1
 refine rg_still hw1 hmix (by kernel_rfl) ?_
 clear Q_0
 have h0_3 := u3.w (u2.w (u1.w h0_0))
 refine st_pq F3 (ex_mv h0_3) fun a4 u4 F4 h10_4 => ?_
 refine st_pq F4 (ex_bi (w' := w1) (args := #[(.slice (some ⟨gi, 0, none⟩) 1 1)]) (v := (.int .i64 1)) (arg1 h10_4) (by kernel_rfl)) fun a5 u5 F5 h11_5 => ?_
 refine st_pq F5 (ex_bin (vy := (.int .i64 1)) (v := (.bool true)) h11_5 rfl (by kernel_rfl)) fun a6 u6 F6 h12_6 => ?_
 refine st_pq F6 (ex_mv h12_6) fun a7 u7 F7 h13_7 => ?_
 have h0_7 := u7.w (u6.w (u5.w (u4.w h0_3)))
 refine st_g (yl (e := 13) rfl h13_7) (ex_mv h0_7) F7.l fun a8 u8 h14_8 => ?_
 have F8 := F7.pt u8
 refine st_g (yl (e := 13) rfl (u8.w h13_7)) (ex_ixg (vx := (.slice (some ⟨gi, 0, none⟩) 1 1)) (vy := (.int .i64 0)) (v := (.pointer (some ⟨gi, 0, none⟩))) h14_8 rfl (by kernel_rfl)) F8.l fun a9 u9 h15_9 => ?_
 have F9 := F8.pt u9
 refine st_g (yl (e := 13) rfl (u9.w (u8.w h13_7))) (ex_lda h15_9 (ld_agg (n := 3) (xs := #[(.string q.uri), (.int .i64 q.li), (.int .i64 q.off)]) (fun _ => by kernel_rfl) (fun _ => by kernel_rfl) Bi_1 rfl (fun _ _ => by rw [Nat.zero_add] <;> rfl))) F9.l fun a10 u10 (h16_10 : a10.tmps.getD 16 undef = (.agg #[(.string q.uri), (.int .i64 q.li), (.int .i64 q.off)])) => ?_
 have F10 := F9.pt u10
 have h13_10 := u10.w (u9.w (u8.w h13_7))
 have h1_10 := u10.w (u9.w (u8.w (u7.w (u6.w (u5.w (u4.w (u3.w (u2.w (u1.w h1_0)))))))))
 refine st_g (yl (e := 13) rfl h13_10) (ex_mv h1_10) F10.l fun a11 u11 h17_11 => ?_
 have F11 := F10.pt u11
 refine st_g (yl (e := 13) rfl (u11.w h13_10)) (ex_nil h17_11) F11.l fun a12 u12 h18_12 => ?_
 have F12 := F11.pt u12
 refine st_g (yl (e := 13) rfl (u12.w (u11.w h13_10))) (ex_fb 0 h18_12) F12.l fun a13 u13 h19_13 => ?_
 have F13 := F12.pt u13
 have h13_13 := u13.w (u12.w (u11.w h13_10))
 refine st_g (yl (e := 13) rfl h13_13) (ex_le (v := (.string q.uri)) h19_13 (Bs_1.cell 0)) F13.l fun a14 u14 h20_14 => ?_
 have F14 := F13.pt u14
 have h1_14 := u14.w (u13.w (u12.w (u11.w h1_10)))
 refine st_g (yl (e := 13) rfl (u14.w h13_13)) (ex_mv h1_14) F14.l fun a15 u15 h21_15 => ?_
 have F15 := F14.pt u15
 refine st_g (yl (e := 13) rfl (u15.w (u14.w h13_13))) (ex_nil h21_15) F15.l fun a16 u16 h22_16 => ?_
 have F16 := F15.pt u16
 have h13_16 := u16.w (u15.w (u14.w h13_13))
 refine st_g (yl (e := 13) rfl h13_16) (ex_fb 1 h22_16) F16.l fun a17 u17 h23_17 => ?_
 have F17 := F16.pt u17
 refine st_g (yl (e := 13) rfl (u17.w h13_16)) (ex_le (v := (.int .i64 q.li)) h23_17 (Bs_1.cell 1)) F17.l fun a18 u18 h24_18 => ?_
 have F18 := F17.pt u18
 have h1_18 := u18.w (u17.w (u16.w (u15.w h1_14)))
 refine st_g (yl (e := 13) rfl (u18.w (u17.w h13_16))) (ex_mv h1_18) F18.l fun a19 u19 h25_19 => ?_
 have F19 := F18.pt u19
 have h13_19 := u19.w (u18.w (u17.w h13_16))
 refine st_g (yl (e := 13) rfl h13_19) (ex_nil h25_19) F19.l fun a20 u20 h26_20 => ?_
 have F20 := F19.pt u20
 refine st_g (yl (e := 13) rfl (u20.w h13_19)) (ex_fb 2 h26_20) F20.l fun a21 u21 h27_21 => ?_
 have F21 := F20.pt u21
 refine st_g (yl (e := 13) rfl (u21.w (u20.w h13_19))) (ex_le (v := (.int .i64 q.off)) h27_21 (Bs_1.cell 2)) F21.l fun a22 u22 h28_22 => ?_
 have F22 := F21.pt u22
 have h13_22 := u22.w (u21.w (u20.w h13_19))
 have h20_22 := u22.w (u21.w (u20.w (u19.w (u18.w (u17.w (u16.w (u15.w h20_14)))))))
 have h24_22 := u22.w (u21.w (u20.w (u19.w h24_18)))
 refine st_g (yl (e := 13) rfl h13_22) (ex_bd (w' := w1) (vs :=  #[(0, (.string q.uri)), (1, (.int .i64 q.li)), (2, (.int .i64 q.off))]) (v := (.agg #[(.string q.uri), (.int .i64 q.li), (.int .i64 q.off)])) (by have e0 : a22.eval (.tmp 20) = (.string q.uri) := h20_22; have e1 : a22.eval (.tmp 24) = (.int .i64 q.li) := h24_22; have e2 : a22.eval (.tmp 28) = (.int .i64 q.off) := h28_22; simp only [List.map_toArray, List.map_cons, List.map_nil, e0, e1, e2]) (by kernel_rfl)) F22.l fun a23 u23 h29_23 => ?_
 have F23 := F22.pt u23
 have h16_23 := u23.w (u22.w (u21.w (u20.w (u19.w (u18.w (u17.w (u16.w (u15.w (u14.w (u13.w (u12.w (u11.w h16_10))))))))))))
 refine st_g (yl (e := 13) rfl (u23.w h13_22)) (ex_bin (v := (.bool true)) h16_23 h29_23 (eq_map q.uri q.li q.off _)) F23.l fun a24 u24 h30_24 => ?_
 have F24 := F23.pt u24
 refine st_pq F24 (ex_pick (q := true) (u24.w (u23.w h13_22)) h30_24) fun a25 u25 F25 h31_25 => ?_
 refine st_pq F25 (ex_as h31_25) fun a26 u26 F26 h4_26 => ?_
 change Code.wp _ _ _ _ _
 refine wp_ret ?_
 try simp only [Exit.then, Exit.inBlock]
 exact bodyPost_ret (v := (.bool true)) ((results_tmp rfl _ _ _).trans (by rw [h4_26])) F26.defers ⟨rfl, Q_1⟩
theorem smaps_any {v : Value} {kp : Option Nat} {k : Option MapD} {w0 : World} (h : MapSl w0 v k) (h2 : SMap w0 kp k) : Calls Tryd.prog 21 #[v, pto kp] w0 fun e w' => e = .returned (.bool true) ∧ w0.grownBy w' none := by
 cases h with
 | nil => cases h2 with
   | nil => exact smaps_none
 | mk h ok => cases h2 with
   | mk h2 ok2 => exact smaps_some h h2
theorem sameseg_any {n : Nat} {s : SegD} {kv mv : Value} {kp mp : Option Nat} {w0 : World} (he : s.e < 160) (ks_0 : KeySl w0 kv s.key) (ms_0 : MapSl w0 mv s.map) (kq_0 : SKey w0 kp s.key) (mq_0 : SMap w0 mp s.map) : Calls Tryd.prog 22 #[.agg (segD n s kv mv), .agg (ssegC s kp mp), .int .u64 n] w0 fun e w' => e = .returned (.bool true) ∧ w0.grownBy w' none := by
 refine calls_of_wp Tryd.func22 rfl ?_
 generalize hA : Act.mk _ _ = a0
 have F0 : Fz 82 a0 := by subst hA; exact ⟨by simp [Tryd.ntmps22], rfl⟩
 have h0_0 : a0.tmps.getD 0 undef = (.agg #[(.int .u64 n), (.string s.title), (.string s.uri), (.float .f64 (fb s.e)), (.int .i64 s.li), (.int .i64 s.off), kv, mv, (.slice none 0 0), (.bool s.disc), (.string s.date)]) := by subst hA; exact fr_arg rfl
 have h1_0 : a0.tmps.getD 1 undef = (.agg #[(.string s.title), (.string s.uri), (.int .i64 s.e), (.int .i64 s.li), (.int .i64 s.off), (pto kp), (pto mp), (.bool s.disc), (.string s.date)]) := by subst hA; exact fr_arg rfl
 have h2_0 : a0.tmps.getD 2 undef = (.int .u64 n) := by subst hA; exact fr_arg rfl
 have Q_0 := grown_refl w0 none
 refine wp_sr ?_
 obtain ⟨gi, hgi⟩ : ∃ g, w0.heap.size = g := ⟨_, rfl⟩
 obtain ⟨w1, hr1, Bi_1, G1, hs1⟩ := al_run (op := Instr.box 40 (.agg #[(.int .u64 n), (.string s.title), (.string s.uri), (.float .f64 (fb s.e)), (.int .i64 s.li), (.int .i64 s.off), kv, mv, (.slice none 0 0), (.bool s.disc), (.string s.date)])) (T := 40) (cs := #[(.int .u64 n), (.string s.title), (.string s.uri), (.float .f64 (fb s.e)), (.int .i64 s.li), (.int .i64 s.off), kv, mv, (.slice none 0 0), (.bool s.disc), (.string s.date)]) hgi (fun _ => by kernel_rfl)
 have Q_1 := grown_trans Q_0 G1
 have ks_1 := ks_0.gn G1
 have ms_1 := ms_0.gn G1
 have kq_1 := kq_0.gn G1
 have mq_1 := mq_0.gn G1
 refine wl_pq F0 (ex_bx h0_0 hr1) fun a1 u1 F1 (h3_1 : a1.tmps.getD 3 undef = (.pointer (some ⟨gi, 0, none⟩))) => ?_
 clear Q_0 kq_0 mq_0 hgi
 obtain ⟨gs, hgs⟩ : ∃ g, w1.heap.size = g := ⟨_, rfl⟩
 have ne_i_s : gi ≠ gs := by have := Bi_1.lt; omega
 obtain ⟨w2, hr2, Bs_2, G2, hs2⟩ := al_run (op := Instr.box 32 (.agg #[(.string s.title), (.string s.uri), (.int .i64 s.e), (.int .i64 s.li), (.int .i64 s.off), (pto kp), (pto mp), (.bool s.disc), (.string s.date)])) (T := 32) (cs := #[(.string s.title), (.string s.uri), (.int .i64 s.e), (.int .i64 s.li), (.int .i64 s.off), (pto kp), (pto mp), (.bool s.disc), (.string s.date)]) hgs (fun _ => by kernel_rfl)
 have Bi_2 := Bi_1.gn G2
 have Q_2 := grown_trans Q_1 G2
 have ks_2 := ks_1.gn G2
 have ms_2 := ms_1.gn G2
 have kq_2 := kq_1.gn G2
 have mq_2 := mq_1.gn G2
 refine wl_pq F1 (ex_bx (u1.w h1_0) hr2) fun a2 u2 F2 (h4_2 : a2.tmps.getD 4 undef = (.pointer (some ⟨gs, 0, none⟩))) => ?_
 clear Q_1 kq_1 mq_1 hgs
 refine wl_pq F2 (ex_as (v := (.bool false)) rfl) fun a3 u3 F3 h6_3 => ?_
 change Code.wp _ _ _ _ _
 refine wp_sr ?_
 refine wl_pq F3 (ex_fb 0 (u3.w (u2.w h3_1))) fun a4 u4 F4 h7_4 => ?_
 refine wl_pq F4 (ex_le (v := (.int .u64 n)) h7_4 (Bi_2.cell 0)) fun a5 u5 F5 h8_5 => ?_
 have h2_5 := u5.w (u4.w (u3.w (u2.w (u1.w h2_0))))
 refine wl_pq F5 (ex_mv h2_5) fun a6 u6 F6 h9_6 => ?_
 refine wl_pq F6 (ex_bin (v := (.bool true)) (u6.w h8_5) h9_6 (eq_int n _)) fun a7 u7 F7 h10_7 => ?_
 refine wl_pq F7 (ex_mv h10_7) fun a8 u8 F8 h11_8 => ?_
 have h3_8 := u8.w (u7.w (u6.w (u5.w (u4.w (u3.w (u2.w h3_1))))))
 refine wl_gq F8 (yl (e := 11) rfl h11_8) (ex_fb 1 h3_8) fun a9 u9 F9 h12_9 => ?_
 refine wl_gq F9 (yl (e := 11) rfl (u9.w h11_8)) (ex_le (v := (.string s.title)) h12_9 (Bi_2.cell 1)) fun a10 u10 F10 h13_10 => ?_
 have h4_10 := u10.w (u9.w (u8.w (u7.w (u6.w (u5.w (u4.w (u3.w h4_2)))))))
 refine wl_gq F10 (yl (e := 11) rfl (u10.w (u9.w h11_8))) (ex_fb 0 h4_10) fun a11 u11 F11 h14_11 => ?_
 have h11_11 := u11.w (u10.w (u9.w h11_8))
 refine wl_gq F11 (yl (e := 11) rfl h11_11) (ex_le (v := (.string s.title)) h14_11 (Bs_2.cell 0)) fun a12 u12 F12 h15_12 => ?_
 refine wl_gq F12 (yl (e := 11) rfl (u12.w h11_11)) (ex_bin (v := (.bool true)) (u12.w (u11.w h13_10)) h15_12 (eq_str s.title _)) fun a13 u13 F13 h16_13 => ?_
 refine wl_pq F13 (ex_pick (q := true) (u13.w (u12.w h11_11)) h16_13) fun a14 u14 F14 h17_14 => ?_
 refine wl_pq F14 (ex_mv h17_14) fun a15 u15 F15 h18_15 => ?_
 have h3_15 := u15.w (u14.w (u13.w (u12.w (u11.w (u10.w (u9.w h3_8))))))
 refine wl_gq F15 (yl (e := 18) rfl h18_15) (ex_fb 2 h3_15) fun a16 u16 F16 h19_16 => ?_
 refine wl_gq F16 (yl (e := 18) rfl (u16.w h18_15)) (ex_le (v := (.string s.uri)) h19_16 (Bi_2.cell 2)) fun a17 u17 F17 h20_17 => ?_
 have h4_17 := u17.w (u16.w (u15.w (u14.w (u13.w (u12.w (u11.w h4_10))))))
 refine wl_gq F17 (yl (e := 18) rfl (u17.w (u16.w h18_15))) (ex_fb 1 h4_17) fun a18 u18 F18 h21_18 => ?_
 have h18_18 := u18.w (u17.w (u16.w h18_15))
 refine wl_gq F18 (yl (e := 18) rfl h18_18) (ex_le (v := (.string s.uri)) h21_18 (Bs_2.cell 1)) fun a19 u19 F19 h22_19 => ?_
 refine wl_gq F19 (yl (e := 18) rfl (u19.w h18_18)) (ex_bin (v := (.bool true)) (u19.w (u18.w h20_17)) h22_19 (eq_str s.uri _)) fun a20 u20 F20 h23_20 => ?_
 refine wl_pq F20 (ex_pick (q := true) (u20.w (u19.w h18_18)) h23_20) fun a21 u21 F21 h24_21 => ?_
 refine wl_pq F21 (ex_mv h24_21) fun a22 u22 F22 h25_22 => ?_
 have h3_22 := u22.w (u21.w (u20.w (u19.w (u18.w (u17.w (u16.w h3_15))))))
 refine wl_gq F22 (yl (e := 25) rfl h25_22) (ex_fb 3 h3_22) fun a23 u23 F23 h26_23 => ?_
 refine wl_gq F23 (yl (e := 25) rfl (u23.w h25_22)) (ex_le (v := (.float .f64 (fb s.e))) h26_23 (Bi_2.cell 3)) fun a24 u24 F24 h27_24 => ?_
 refine wl_gq F24 (yl (e := 25) rfl (u24.w (u23.w h25_22))) (ex_bin (vy := (.float .f64 4620693217682128896)) (v := (.float .f64 (fn s.e))) h27_24 rfl (fo_mul _ _ (fl_mul he) _)) fun a25 u25 F25 h28_25 => ?_
 have h25_25 := u25.w (u24.w (u23.w h25_22))
 have h4_25 := u25.w (u24.w (u23.w (u22.w (u21.w (u20.w (u19.w (u18.w h4_17)))))))
 refine wl_gq F25 (yl (e := 25) rfl h25_25) (ex_fb 2 h4_25) fun a26 u26 F26 h29_26 => ?_
 refine wl_gq F26 (yl (e := 25) rfl (u26.w h25_25)) (ex_le (v := (.int .i64 s.e)) h29_26 (Bs_2.cell 2)) fun a27 u27 F27 h30_27 => ?_
 refine wl_gq F27 (yl (e := 25) rfl (u27.w (u26.w h25_25))) (ex_conv (vx := (.int .i64 s.e)) (v := (.float .f64 (fn s.e))) h30_27 (cv_f64 s.e (by omega) _)) fun a28 u28 F28 h31_28 => ?_
 have h25_28 := u28.w (u27.w (u26.w h25_25))
 have h28_28 := u28.w (u27.w (u26.w h28_25))
 refine wl_gq F28 (yl (e := 25) rfl h25_28) (ex_bin (v := (.bool true)) h28_28 h31_28 ((fo_eq _ _ _).trans (by rw [fn_eq he he, decide_eq_true rfl]))) fun a29 u29 F29 h32_29 => ?_
 refine wl_pq F29 (ex_pick (q := true) (u29.w h25_28) h32_29) fun a30 u30 F30 h33_30 => ?_
 refine wl_pq F30 (ex_mv h33_30) fun a31 u31 F31 h34_31 => ?_
 have h3_31 := u31.w (u30.w (u29.w (u28.w (u27.w (u26.w (u25.w (u24.w (u23.w h3_22))))))))
 refine wl_gq F31 (yl (e := 34) rfl h34_31) (ex_fb 4 h3_31) fun a32 u32 F32 h35_32 => ?_
 refine wl_gq F32 (yl (e := 34) rfl (u32.w h34_31)) (ex_le (v := (.int .i64 s.li)) h35_32 (Bi_2.cell 4)) fun a33 u33 F33 h36_33 => ?_
 have h4_33 := u33.w (u32.w (u31.w (u30.w (u29.w (u28.w (u27.w (u26.w h4_25)))))))
 refine wl_gq F33 (yl (e := 34) rfl (u33.w (u32.w h34_31))) (ex_fb 3 h4_33) fun a34 u34 F34 h37_34 => ?_
 have h34_34 := u34.w (u33.w (u32.w h34_31))
 refine wl_gq F34 (yl (e := 34) rfl h34_34) (ex_le (v := (.int .i64 s.li)) h37_34 (Bs_2.cell 3)) fun a35 u35 F35 h38_35 => ?_
 refine wl_gq F35 (yl (e := 34) rfl (u35.w h34_34)) (ex_bin (v := (.bool true)) (u35.w (u34.w h36_33)) h38_35 (eq_int s.li _)) fun a36 u36 F36 h39_36 => ?_
 refine wl_pq F36 (ex_pick (q := true) (u36.w (u35.w h34_34)) h39_36) fun a37 u37 F37 h40_37 => ?_
 refine wl_pq F37 (ex_mv h40_37) fun a38 u38 F38 h41_38 => ?_
 have h3_38 := u38.w (u37.w (u36.w (u35.w (u34.w (u33.w (u32.w h3_31))))))
 refine wl_gq F38 (yl (e := 41) rfl h41_38) (ex_fb 5 h3_38) fun a39 u39 F39 h42_39 => ?_
 refine wl_gq F39 (yl (e := 41) rfl (u39.w h41_38)) (ex_le (v := (.int .i64 s.off)) h42_39 (Bi_2.cell 5)) fun a40 u40 F40 h43_40 => ?_
 have h4_40 := u40.w (u39.w (u38.w (u37.w (u36.w (u35.w (u34.w h4_33))))))
 refine wl_gq F40 (yl (e := 41) rfl (u40.w (u39.w h41_38))) (ex_fb 4 h4_40) fun a41 u41 F41 h44_41 => ?_
 have h41_41 := u41.w (u40.w (u39.w h41_38))
 refine wl_gq F41 (yl (e := 41) rfl h41_41) (ex_le (v := (.int .i64 s.off)) h44_41 (Bs_2.cell 4)) fun a42 u42 F42 h45_42 => ?_
 refine wl_gq F42 (yl (e := 41) rfl (u42.w h41_41)) (ex_bin (v := (.bool true)) (u42.w (u41.w h43_40)) h45_42 (eq_int s.off _)) fun a43 u43 F43 h46_43 => ?_
 refine wl_pq F43 (ex_pick (q := true) (u43.w (u42.w h41_41)) h46_43) fun a44 u44 F44 h47_44 => ?_
 refine wl_pq F44 (ex_mv h47_44) fun a45 u45 F45 h48_45 => ?_
 have h3_45 := u45.w (u44.w (u43.w (u42.w (u41.w (u40.w (u39.w h3_38))))))
 refine wl_gq F45 (yl (e := 48) rfl h48_45) (ex_fb 9 h3_45) fun a46 u46 F46 h49_46 => ?_
 refine wl_gq F46 (yl (e := 48) rfl (u46.w h48_45)) (ex_le (v := (.bool s.disc)) h49_46 (Bi_2.cell 9)) fun a47 u47 F47 h50_47 => ?_
 have h4_47 := u47.w (u46.w (u45.w (u44.w (u43.w (u42.w (u41.w h4_40))))))
 refine wl_gq F47 (yl (e := 48) rfl (u47.w (u46.w h48_45))) (ex_fb 7 h4_47) fun a48 u48 F48 h51_48 => ?_
 have h48_48 := u48.w (u47.w (u46.w h48_45))
 refine wl_gq F48 (yl (e := 48) rfl h48_48) (ex_le (v := (.bool s.disc)) h51_48 (Bs_2.cell 7)) fun a49 u49 F49 h52_49 => ?_
 refine wl_gq F49 (yl (e := 48) rfl (u49.w h48_48)) (ex_bin (v := (.bool true)) (u49.w (u48.w h50_47)) h52_49 (eq_bool s.disc _)) fun a50 u50 F50 h53_50 => ?_
 refine wl_pq F50 (ex_pick (q := true) (u50.w (u49.w h48_48)) h53_50) fun a51 u51 F51 h54_51 => ?_
 refine wl_pq F51 (ex_mv h54_51) fun a52 u52 F52 h55_52 => ?_
 have h3_52 := u52.w (u51.w (u50.w (u49.w (u48.w (u47.w (u46.w h3_45))))))
 refine wl_gq F52 (yl (e := 55) rfl h55_52) (ex_fb 10 h3_52) fun a53 u53 F53 h56_53 => ?_
 refine wl_gq F53 (yl (e := 55) rfl (u53.w h55_52)) (ex_le (v := (.string s.date)) h56_53 (Bi_2.cell 10)) fun a54 u54 F54 h57_54 => ?_
 have h4_54 := u54.w (u53.w (u52.w (u51.w (u50.w (u49.w (u48.w h4_47))))))
 refine wl_gq F54 (yl (e := 55) rfl (u54.w (u53.w h55_52))) (ex_fb 8 h4_54) fun a55 u55 F55 h58_55 => ?_
 have h55_55 := u55.w (u54.w (u53.w h55_52))
 refine wl_gq F55 (yl (e := 55) rfl h55_55) (ex_le (v := (.string s.date)) h58_55 (Bs_2.cell 8)) fun a56 u56 F56 h59_56 => ?_
 refine wl_gq F56 (yl (e := 55) rfl (u56.w h55_55)) (ex_bin (v := (.bool true)) (u56.w (u55.w h57_54)) h59_56 (eq_str s.date _)) fun a57 u57 F57 h60_57 => ?_
 refine wl_pq F57 (ex_pick (q := true) (u57.w (u56.w h55_55)) h60_57) fun a58 u58 F58 h61_58 => ?_
 refine wl_pq F58 (ex_mv h61_58) fun a59 u59 F59 h62_59 => ?_
 have h3_59 := u59.w (u58.w (u57.w (u56.w (u55.w (u54.w (u53.w h3_52))))))
 refine wl_gq F59 (yl (e := 62) rfl h62_59) (ex_fb 8 h3_59) fun a60 u60 F60 h63_60 => ?_
 refine wl_gq F60 (yl (e := 62) rfl (u60.w h62_59)) (ex_le (v := (.slice none 0 0)) h63_60 (Bi_2.cell 8)) fun a61 u61 F61 h64_61 => ?_
 refine wl_gq F61 (yl (e := 62) rfl (u61.w (u60.w h62_59))) (ex_bi (w' := w2) (args := #[(.slice none 0 0)]) (v := (.int .i64 0)) (arg1 h64_61) (by kernel_rfl)) fun a62 u62 F62 h65_62 => ?_
 have h62_62 := u62.w (u61.w (u60.w h62_59))
 refine wl_gq F62 (yl (e := 62) rfl h62_62) (ex_bin (vy := (.int .i64 0)) (v := (.bool true)) h65_62 rfl (by kernel_rfl)) fun a63 u63 F63 h66_63 => ?_
 refine wl_pq F63 (ex_pick (q := true) (u63.w h62_62) h66_63) fun a64 u64 F64 h67_64 => ?_
 refine wl_pq F64 (ex_mv h67_64) fun a65 u65 F65 h68_65 => ?_
 have h3_65 := u65.w (u64.w (u63.w (u62.w (u61.w (u60.w h3_59)))))
 refine wl_gq F65 (yl (e := 68) rfl h68_65) (ex_fb 6 h3_65) fun a66 u66 F66 h69_66 => ?_
 refine wl_gq F66 (yl (e := 68) rfl (u66.w h68_65)) (ex_le (v := kv) h69_66 (Bi_2.cell 6)) fun a67 u67 F67 h70_67 => ?_
 have h4_67 := u67.w (u66.w (u65.w (u64.w (u63.w (u62.w (u61.w (u60.w (u59.w (u58.w (u57.w (u56.w (u55.w h4_54))))))))))))
 refine wl_gq F67 (yl (e := 68) rfl (u67.w (u66.w h68_65))) (ex_fb 5 h4_67) fun a68 u68 F68 h71_68 => ?_
 have h68_68 := u68.w (u67.w (u66.w h68_65))
 refine wl_gq F68 (yl (e := 68) rfl h68_68) (ex_le (v := (pto kp)) h71_68 (Bs_2.cell 5)) fun a69 u69 F69 h72_69 => ?_
 refine wl_gc (yl (e := 68) rfl (u69.w h68_68)) (args := #[kv, (pto kp)]) (R := fun v w' => v = (.bool true) ∧ w2.grownBy w' none) (ex_cl (fun _ _ => by kernel_rfl) (arg2 (u69.w (u68.w h70_67)) h72_69)) ((skeys_any ks_2 kq_2).mono fun _ _ h => ⟨_, h.1, rfl, h.2⟩) F69.l ?_
 rintro v w3 ⟨rfl, G3⟩
 have Bi_3 := Bi_2.gn G3
 have Bs_3 := Bs_2.gn G3
 have Q_3 := grown_trans Q_2 G3
 have ks_3 := ks_2.gn G3
 have ms_3 := ms_2.gn G3
 have kq_3 := kq_2.gn G3
 have mq_3 := mq_2.gn G3
 intro a70 u70 h73_70
 have F70 := F69.pt u70
 clear Q_2 kq_2 mq_2
 refine wl_pq F70 (ex_pick (q := true) (u70.w (u69.w h68_68)) h73_70) fun a71 u71 F71 h74_71 => ?_
 refine wl_pq F71 (ex_mv h74_71) fun a72 u72 F72 h75_72 => ?_
 have h3_72 := u72.w (u71.w (u70.w (u69.w (u68.w (u67.w (u66.w h3_65))))))
 refine wl_gq F72 (yl (e := 75) rfl h75_72) (ex_fb 7 h3_72) fun a73 u73 F73 h76_73 => ?_
 refine wl_gq F73 (yl (e := 75) rfl (u73.w h75_72)) (ex_le (v := mv) h76_73 (Bi_3.cell 7)) fun a74 u74 F74 h77_74 => ?_
 have h4_74 := u74.w (u73.w (u72.w (u71.w (u70.w (u69.w (u68.w h4_67))))))
 refine wl_gq F74 (yl (e := 75) rfl (u74.w (u73.w h75_72))) (ex_fb 6 h4_74) fun a75 u75 F75 h78_75 => ?_
 have h75_75 := u75.w (u74.w (u73.w h75_72))
 refine wl_gq F75 (yl (e := 75) rfl h75_75) (ex_le (v := (pto mp)) h78_75 (Bs_3.cell 6)) fun a76 u76 F76 h79_76 => ?_
 refine wl_gc (yl (e := 75) rfl (u76.w h75_75)) (args := #[mv, (pto mp)]) (R := fun v w' => v = (.bool true) ∧ w3.grownBy w' none) (ex_cl (fun _ _ => by kernel_rfl) (arg2 (u76.w (u75.w h77_74)) h79_76)) ((smaps_any ms_3 mq_3).mono fun _ _ h => ⟨_, h.1, rfl, h.2⟩) F76.l ?_
 rintro v w4 ⟨rfl, G4⟩
 have Bi_4 := Bi_3.gn G4
 have Bs_4 := Bs_3.gn G4
 have Q_4 := grown_trans Q_3 G4
 have ks_4 := ks_3.gn G4
 have ms_4 := ms_3.gn G4
 have kq_4 := kq_3.gn G4
 have mq_4 := mq_3.gn G4
 intro a77 u77 h80_77
 have F77 := F76.pt u77
 clear Q_3 kq_3 mq_3
 refine wl_pq F77 (ex_pick (q := true) (u77.w (u76.w h75_75)) h80_77) fun a78 u78 F78 h81_78 => ?_
 refine wl_pq F78 (ex_as h81_78) fun a79 u79 F79 h6_79 => ?_
 change Code.wp _ _ _ _ _
 refine wp_ret ?_
 try simp only [Exit.then, Exit.inBlock]
 exact bodyPost_ret (v := (.bool true)) ((results_tmp rfl _ _ _).trans (by rw [h6_79])) F79.defers ⟨rfl, Q_4⟩
end Go.Proofs.YtdpebhlkgmopkaaDoor
