/-
  toKeys, toMaps, toSegment, toMedia: a playlist of the specification as data of the thin package.
-/
import Derived.Test.YtlphcidpaidclaaGreatDoorSgm
namespace Go.Proofs.YtlphcidpaidclaaGreatDoor
open Go.RowKit
set_option maxRecDepth 100000
section
variable {x y : Operand}
theorem cv_f64 (n : Nat) (hn : n < 4000) (w : World) : (convert 3 24 (.int .i64 n)).run Tryz.prog w = .ok (.float .f64 (fn n)) w := by
  simp [go_sem]
  exact flo_near hn
theorem bo_quo8 (n : Nat) (hn : n < 4000) (w : World) : (do eqGuard .quo 24 x y (.float .f64 (fn n)) (.float .f64 4620693217682128896); binOp .quo 24 (.float .f64 (fn n)) (.float .f64 4620693217682128896) : Sem Value).run Tryz.prog w = .ok (.float .f64 (fb n)) w := by
  have h := run_float_arith (P := Tryz.prog) w .quo 24 .f64 (fn n) 4620693217682128896 (fb n) (flo_div hn)
  simp [go_sem] at h ⊢
  exact h
theorem bo_nile (T : Nat) (kp : Option Nat) (w : World) (h : T = 40 ∨ T = 41) : (do eqGuard .eql T x y (pto kp) (.pointer none); binOp .eql T (pto kp) (.pointer none) : Sem Value).run Tryz.prog w = .ok (.bool kp.isNone) w := by
  rcases h with rfl | rfl <;> cases kp <;> kernel_rfl
end

theorem toKeys_no {w0 : World} : Calls Tryz.prog 23 #[.pointer none] w0 fun e w' => ∃ kv, e = .returned kv ∧ KeySl w' kv none ∧ w0.grownBy w' none := by
  refine calls_of_wp Tryz.func23 rfl ?_
  generalize hA : Act.mk _ _ = a0
  have F0 : Fz 27 a0 := by subst hA; exact ⟨by simp [Tryz.ntmps23], rfl⟩
  have h0_0 : a0.tmps.getD 0 undef = (.pointer none) := by subst hA; exact fr_arg rfl
  clear hA
  refine wp_seq ?_
  refine rg_list ?_
  refine wl_p (ex_as (v := (.slice none 0 0)) rfl) F0.l fun a1 u1 h2_1 => ?_
  have F1 := F0.pt u1
  change Code.wp _ _ _ _ _
  refine wp_seq ?_
  refine wp_seq ?_
  refine rg_list ?_
  refine wl_p (ex_mv (u1.w h0_0)) F1.l fun a2 u2 h3_2 => ?_
  have F2 := F1.pt u2
  refine wl_p (ex_bin (vy := (.pointer none)) (v := (.bool true)) h3_2 rfl (by kernel_rfl)) F2.l fun a3 u3 h4_3 => ?_
  have F3 := F2.pt u3
  change Code.wp _ _ _ _ _
  refine wp_cond_true h4_3 ?_
  refine wp_seq ?_
  refine rg_list ?_
  refine wl_p (ex_as (v := (.slice none 0 0)) rfl) F3.l fun a4 u4 h2_4 => ?_
  have F4 := F3.pt u4
  change Code.wp _ _ _ _ _
  refine wp_ret ?_
  try simp only [Exit.then, Exit.inBlock]
  exact bodyPost_ret (v := (.slice none 0 0)) ((results_tmp rfl _ _ _).trans (by rw [h2_4])) F4.defers ⟨_, rfl, .nil, grown_refl _ _⟩
theorem toKeys_yes {gk : Nat} {k : KeyD} {w0 : World} (hk : Blk w0 gk 89 (keyC k)) (hok : k.Ok) : Calls Tryz.prog 23 #[.pointer (some ⟨gk, 0, none⟩)] w0 fun e w' => ∃ kv, e = .returned kv ∧ KeySl w' kv (some k) ∧ w0.grownBy w' none := by
  refine calls_of_wp Tryz.func23 rfl ?_
  generalize hA : Act.mk _ _ = a0
  have F0 : Fz 27 a0 := by subst hA; exact ⟨by simp [Tryz.ntmps23], rfl⟩
  have h0_0 : a0.tmps.getD 0 undef = (.pointer (some ⟨gk, 0, none⟩)) := by subst hA; exact fr_arg rfl
  clear hA
  have Kp0 := Kp.refl [] w0
  refine wp_seq ?_
  refine rg_list ?_
  refine wl_p (ex_as (v := (.slice none 0 0)) rfl) F0.l fun a1 u1 h2_1 => ?_
  have F1 := F0.pt u1
  change Code.wp _ _ _ _ _
  refine wp_seq ?_
  refine wp_seq ?_
  refine rg_list ?_
  refine wl_p (ex_mv (u1.w h0_0)) F1.l fun a2 u2 h3_2 => ?_
  have F2 := F1.pt u2
  refine wl_p (ex_bin (vy := (.pointer none)) (v := (.bool false)) h3_2 rfl (by kernel_rfl)) F2.l fun a3 u3 h4_3 => ?_
  have F3 := F2.pt u3
  change Code.wp _ _ _ _ _
  refine wp_cond_false h4_3 ?_
  refine wp_skip ?_
  change Code.wp _ _ _ _ _
  refine wp_seq ?_
  obtain ⟨w1, hw1⟩ : ∃ w, w = w0.drew := ⟨_, rfl⟩
  have G1 : w0.grownBy w1 none := hw1 ▸ grown_drew _
  have Bk_1 := hk.gn G1
  have Kp1 := Kp0.new G1
  refine rg_ord (S := fun w' => Blk w' gk 89 #[(.string k.me), (.string k.uri), (.string k.iv), (.string k.fo), (.string k.ve)]) [0, 1, 2, 3, 4, 5, 6, 7, 8, 9, 10, 11, 12, 13, 14, 15, 16, 17, 18, 19, 20] [21, 22] ⟨rfl, by decide⟩ hmix (by kernel_rfl) (by rw [show w0.drew = w1 from hw1.symm]; exact Bk_1) ?_
  rw [show w0.drew = w1 from hw1.symm]
  clear hk
  have h0_3 := u3.w (u2.w (u1.w h0_0))
  refine mh_p (fun w hw => ex_mv h0_3) F3.l fun a4 u4 h5_4 => ?_
  have F4 := F3.pt u4
  refine mh_p (fun w hw => ex_nil h5_4) F4.l fun a5 u5 h6_5 => ?_
  have F5 := F4.pt u5
  refine mh_p (fun w hw => ex_fb 0 h6_5) F5.l fun a6 u6 h7_6 => ?_
  have F6 := F5.pt u6
  refine mh_p (fun w hw => ex_le (v := (.string k.me)) h7_6 (hw.cell 0)) F6.l fun a7 u7 h8_7 => ?_
  have F7 := F6.pt u7
  have h0_7 := u7.w (u6.w (u5.w (u4.w h0_3)))
  refine mh_p (fun w hw => ex_mv h0_7) F7.l fun a8 u8 h9_8 => ?_
  have F8 := F7.pt u8
  refine mh_p (fun w hw => ex_nil h9_8) F8.l fun a9 u9 h10_9 => ?_
  have F9 := F8.pt u9
  refine mh_p (fun w hw => ex_fb 1 h10_9) F9.l fun a10 u10 h11_10 => ?_
  have F10 := F9.pt u10
  refine mh_p (fun w hw => ex_le (v := (.string k.uri)) h11_10 (hw.cell 1)) F10.l fun a11 u11 h12_11 => ?_
  have F11 := F10.pt u11
  have h0_11 := u11.w (u10.w (u9.w (u8.w h0_7)))
  refine mh_p (fun w hw => ex_mv h0_11) F11.l fun a12 u12 h13_12 => ?_
  have F12 := F11.pt u12
  refine mh_p (fun w hw => ex_nil h13_12) F12.l fun a13 u13 h14_13 => ?_
  have F13 := F12.pt u13
  refine mh_p (fun w hw => ex_fb 2 h14_13) F13.l fun a14 u14 h15_14 => ?_
  have F14 := F13.pt u14
  refine mh_p (fun w hw => ex_le (v := (.string k.iv)) h15_14 (hw.cell 2)) F14.l fun a15 u15 h16_15 => ?_
  have F15 := F14.pt u15
  have h0_15 := u15.w (u14.w (u13.w (u12.w h0_11)))
  refine mh_p (fun w hw => ex_mv h0_15) F15.l fun a16 u16 h17_16 => ?_
  have F16 := F15.pt u16
  refine mh_p (fun w hw => ex_nil h17_16) F16.l fun a17 u17 h18_17 => ?_
  have F17 := F16.pt u17
  refine mh_p (fun w hw => ex_fb 3 h18_17) F17.l fun a18 u18 h19_18 => ?_
  have F18 := F17.pt u18
  refine mh_p (fun w hw => ex_le (v := (.string k.fo)) h19_18 (hw.cell 3)) F18.l fun a19 u19 h20_19 => ?_
  have F19 := F18.pt u19
  have h0_19 := u19.w (u18.w (u17.w (u16.w h0_15)))
  refine mh_p (fun w hw => ex_mv h0_19) F19.l fun a20 u20 h21_20 => ?_
  have F20 := F19.pt u20
  refine mh_p (fun w hw => ex_nil h21_20) F20.l fun a21 u21 h22_21 => ?_
  have F21 := F20.pt u21
  refine mh_p (fun w hw => ex_fb 4 h22_21) F21.l fun a22 u22 h23_22 => ?_
  have F22 := F21.pt u22
  refine mh_p (fun w hw => ex_le (v := (.string k.ve)) h23_22 (hw.cell 4)) F22.l fun a23 u23 h24_23 => ?_
  have F23 := F22.pt u23
  have h8_23 := u23.w (u22.w (u21.w (u20.w (u19.w (u18.w (u17.w (u16.w (u15.w (u14.w (u13.w (u12.w (u11.w (u10.w (u9.w (u8.w h8_7)))))))))))))))
  have h12_23 := u23.w (u22.w (u21.w (u20.w (u19.w (u18.w (u17.w (u16.w (u15.w (u14.w (u13.w (u12.w h12_11)))))))))))
  have h16_23 := u23.w (u22.w (u21.w (u20.w (u19.w (u18.w (u17.w (u16.w h16_15)))))))
  have h20_23 := u23.w (u22.w (u21.w (u20.w h20_19)))
  refine mh_p (fun w hw => ex_bd (w' := w) (vs :=  #[(0, (.string k.me)), (1, (.string k.uri)), (2, (.string k.iv)), (3, (.string k.fo)), (4, (.string k.ve))]) (v := (.agg #[(.string k.me), (.string k.uri), (.string k.iv), (.string k.fo), (.string k.ve)])) (by have e0 : a23.eval (.tmp 8) = (.string k.me) := h8_23; have e1 : a23.eval (.tmp 12) = (.string k.uri) := h12_23; have e2 : a23.eval (.tmp 16) = (.string k.iv) := h16_23; have e3 : a23.eval (.tmp 20) = (.string k.fo) := h20_23; have e4 : a23.eval (.tmp 24) = (.string k.ve) := h24_23; simp only [List.map_toArray, List.map_cons, List.map_nil, e0, e1, e2, e3, e4]) (by kernel_rfl)) F23.l fun a24 u24 h25_24 => ?_
  have F24 := F23.pt u24
  obtain ⟨gs26_24, hgs26_24⟩ : ∃ g, w1.heap.size = g := ⟨_, rfl⟩
  have ne_k_s26_24 : gk ≠ gs26_24 := by have := Bk_1.lt; omega
  have ge_s26_24 : w0.heap.size ≤ gs26_24 := by have := Kp1.size; omega
  obtain ⟨w2, hr2, Bs26_24_2, G2, hs2⟩ := bs_run (op := Instr.buildSlice 26 1 #[(0, (.agg #[(.string k.me), (.string k.uri), (.string k.iv), (.string k.fo), (.string k.ve)]))]) (n := 1) (T := 99) (cs := #[(.string k.me), (.string k.uri), (.string k.iv), (.string k.fo), (.string k.ve)]) hgs26_24 (fun _ => by kernel_rfl)
  have Bk_2 := Bk_1.gn G2
  have Kp2 := Kp1.new G2
  refine mt_p (ex_bs (vs := #[(0, (.agg #[(.string k.me), (.string k.uri), (.string k.iv), (.string k.fo), (.string k.ve)]))]) (by have e0 : a24.eval (.tmp 25) = (.agg #[(.string k.me), (.string k.uri), (.string k.iv), (.string k.fo), (.string k.ve)]) := h25_24; simp only [List.map_toArray, List.map_cons, List.map_nil, e0]) hr2) (Bk_2) F24.l fun a25 u25 (h26_25 : a25.tmps.getD 26 undef = (.slice (some ⟨gs26_24, 0, none⟩) 1 1)) => ?_
  have F25 := F24.pt u25
  refine mt_p (ex_as h26_25) (Bk_2) F25.l fun a26 u26 h2_26 => ?_
  have F26 := F25.pt u26
  change Code.wp _ _ _ _ _
  refine wp_ret ?_
  try simp only [Exit.then, Exit.inBlock]
  exact bodyPost_ret (v := (.slice (some ⟨gs26_24, 0, none⟩) 1 1)) ((results_tmp rfl _ _ _).trans (by rw [h2_26])) F26.defers ⟨_, rfl, .mk Bs26_24_2 hok, Kp2.grown⟩
theorem toKeys_any {kp : Option Nat} {k : Option KeyD} {w0 : World} (h : SKey w0 kp k) : Calls Tryz.prog 23 #[pto kp] w0 fun e w' => ∃ kv, e = .returned kv ∧ KeySl w' kv k ∧ w0.grownBy w' none := by
  cases h with
  | nil => exact toKeys_no
  | mk h ok => exact toKeys_yes h ok
theorem toMaps_no {w0 : World} : Calls Tryz.prog 24 #[.pointer none] w0 fun e w' => ∃ kv, e = .returned kv ∧ MapSl w' kv none ∧ w0.grownBy w' none := by
  refine calls_of_wp Tryz.func24 rfl ?_
  generalize hA : Act.mk _ _ = a0
  have F0 : Fz 19 a0 := by subst hA; exact ⟨by simp [Tryz.ntmps24], rfl⟩
  have h0_0 : a0.tmps.getD 0 undef = (.pointer none) := by subst hA; exact fr_arg rfl
  clear hA
  refine wp_seq ?_
  refine rg_list ?_
  refine wl_p (ex_as (v := (.slice none 0 0)) rfl) F0.l fun a1 u1 h2_1 => ?_
  have F1 := F0.pt u1
  change Code.wp _ _ _ _ _
  refine wp_seq ?_
  refine wp_seq ?_
  refine rg_list ?_
  refine wl_p (ex_mv (u1.w h0_0)) F1.l fun a2 u2 h3_2 => ?_
  have F2 := F1.pt u2
  refine wl_p (ex_bin (vy := (.pointer none)) (v := (.bool true)) h3_2 rfl (by kernel_rfl)) F2.l fun a3 u3 h4_3 => ?_
  have F3 := F2.pt u3
  change Code.wp _ _ _ _ _
  refine wp_cond_true h4_3 ?_
  refine wp_seq ?_
  refine rg_list ?_
  refine wl_p (ex_as (v := (.slice none 0 0)) rfl) F3.l fun a4 u4 h2_4 => ?_
  have F4 := F3.pt u4
  change Code.wp _ _ _ _ _
  refine wp_ret ?_
  try simp only [Exit.then, Exit.inBlock]
  exact bodyPost_ret (v := (.slice none 0 0)) ((results_tmp rfl _ _ _).trans (by rw [h2_4])) F4.defers ⟨_, rfl, .nil, grown_refl _ _⟩
theorem toMaps_yes {gk : Nat} {k : MapD} {w0 : World} (hk : Blk w0 gk 92 (mapC k)) (hok : k.Ok) : Calls Tryz.prog 24 #[.pointer (some ⟨gk, 0, none⟩)] w0 fun e w' => ∃ kv, e = .returned kv ∧ MapSl w' kv (some k) ∧ w0.grownBy w' none := by
  refine calls_of_wp Tryz.func24 rfl ?_
  generalize hA : Act.mk _ _ = a0
  have F0 : Fz 19 a0 := by subst hA; exact ⟨by simp [Tryz.ntmps24], rfl⟩
  have h0_0 : a0.tmps.getD 0 undef = (.pointer (some ⟨gk, 0, none⟩)) := by subst hA; exact fr_arg rfl
  clear hA
  have Kp0 := Kp.refl [] w0
  refine wp_seq ?_
  refine rg_list ?_
  refine wl_p (ex_as (v := (.slice none 0 0)) rfl) F0.l fun a1 u1 h2_1 => ?_
  have F1 := F0.pt u1
  change Code.wp _ _ _ _ _
  refine wp_seq ?_
  refine wp_seq ?_
  refine rg_list ?_
  refine wl_p (ex_mv (u1.w h0_0)) F1.l fun a2 u2 h3_2 => ?_
  have F2 := F1.pt u2
  refine wl_p (ex_bin (vy := (.pointer none)) (v := (.bool false)) h3_2 rfl (by kernel_rfl)) F2.l fun a3 u3 h4_3 => ?_
  have F3 := F2.pt u3
  change Code.wp _ _ _ _ _
  refine wp_cond_false h4_3 ?_
  refine wp_skip ?_
  change Code.wp _ _ _ _ _
  refine wp_seq ?_
  obtain ⟨w1, hw1⟩ : ∃ w, w = w0.drew := ⟨_, rfl⟩
  have G1 : w0.grownBy w1 none := hw1 ▸ grown_drew _
  have Bk_1 := hk.gn G1
  have Kp1 := Kp0.new G1
  refine rg_ord (S := fun w' => Blk w' gk 92 #[(.string k.uri), (.int .i64 k.li), (.int .i64 k.off)]) [0, 1, 2, 3, 4, 5, 6, 7, 8, 9, 10, 11, 12] [13, 14] ⟨rfl, by decide⟩ hmix (by kernel_rfl) (by rw [show w0.drew = w1 from hw1.symm]; exact Bk_1) ?_
  rw [show w0.drew = w1 from hw1.symm]
  clear hk
  have h0_3 := u3.w (u2.w (u1.w h0_0))
  refine mh_p (fun w hw => ex_mv h0_3) F3.l fun a4 u4 h5_4 => ?_
  have F4 := F3.pt u4
  refine mh_p (fun w hw => ex_nil h5_4) F4.l fun a5 u5 h6_5 => ?_
  have F5 := F4.pt u5
  refine mh_p (fun w hw => ex_fb 0 h6_5) F5.l fun a6 u6 h7_6 => ?_
  have F6 := F5.pt u6
  refine mh_p (fun w hw => ex_le (v := (.string k.uri)) h7_6 (hw.cell 0)) F6.l fun a7 u7 h8_7 => ?_
  have F7 := F6.pt u7
  have h0_7 := u7.w (u6.w (u5.w (u4.w h0_3)))
  refine mh_p (fun w hw => ex_mv h0_7) F7.l fun a8 u8 h9_8 => ?_
  have F8 := F7.pt u8
  refine mh_p (fun w hw => ex_nil h9_8) F8.l fun a9 u9 h10_9 => ?_
  have F9 := F8.pt u9
  refine mh_p (fun w hw => ex_fb 1 h10_9) F9.l fun a10 u10 h11_10 => ?_
  have F10 := F9.pt u10
  refine mh_p (fun w hw => ex_le (v := (.int .i64 k.li)) h11_10 (hw.cell 1)) F10.l fun a11 u11 h12_11 => ?_
  have F11 := F10.pt u11
  have h0_11 := u11.w (u10.w (u9.w (u8.w h0_7)))
  refine mh_p (fun w hw => ex_mv h0_11) F11.l fun a12 u12 h13_12 => ?_
  have F12 := F11.pt u12
  refine mh_p (fun w hw => ex_nil h13_12) F12.l fun a13 u13 h14_13 => ?_
  have F13 := F12.pt u13
  refine mh_p (fun w hw => ex_fb 2 h14_13) F13.l fun a14 u14 h15_14 => ?_
  have F14 := F13.pt u14
  refine mh_p (fun w hw => ex_le (v := (.int .i64 k.off)) h15_14 (hw.cell 2)) F14.l fun a15 u15 h16_15 => ?_
  have F15 := F14.pt u15
  have h8_15 := u15.w (u14.w (u13.w (u12.w (u11.w (u10.w (u9.w (u8.w h8_7)))))))
  have h12_15 := u15.w (u14.w (u13.w (u12.w h12_11)))
  refine mh_p (fun w hw => ex_bd (w' := w) (vs :=  #[(0, (.string k.uri)), (1, (.int .i64 k.li)), (2, (.int .i64 k.off))]) (v := (.agg #[(.string k.uri), (.int .i64 k.li), (.int .i64 k.off)])) (by have e0 : a15.eval (.tmp 8) = (.string k.uri) := h8_15; have e1 : a15.eval (.tmp 12) = (.int .i64 k.li) := h12_15; have e2 : a15.eval (.tmp 16) = (.int .i64 k.off) := h16_15; simp only [List.map_toArray, List.map_cons, List.map_nil, e0, e1, e2]) (by kernel_rfl)) F15.l fun a16 u16 h17_16 => ?_
  have F16 := F15.pt u16
  obtain ⟨gs18_16, hgs18_16⟩ : ∃ g, w1.heap.size = g := ⟨_, rfl⟩
  have ne_k_s18_16 : gk ≠ gs18_16 := by have := Bk_1.lt; omega
  have ge_s18_16 : w0.heap.size ≤ gs18_16 := by have := Kp1.size; omega
  obtain ⟨w2, hr2, Bs18_16_2, G2, hs2⟩ := bs_run (op := Instr.buildSlice 27 1 #[(0, (.agg #[(.string k.uri), (.int .i64 k.li), (.int .i64 k.off)]))]) (n := 1) (T := 102) (cs := #[(.string k.uri), (.int .i64 k.li), (.int .i64 k.off)]) hgs18_16 (fun _ => by kernel_rfl)
  have Bk_2 := Bk_1.gn G2
  have Kp2 := Kp1.new G2
  refine mt_p (ex_bs (vs := #[(0, (.agg #[(.string k.uri), (.int .i64 k.li), (.int .i64 k.off)]))]) (by have e0 : a16.eval (.tmp 17) = (.agg #[(.string k.uri), (.int .i64 k.li), (.int .i64 k.off)]) := h17_16; simp only [List.map_toArray, List.map_cons, List.map_nil, e0]) hr2) (Bk_2) F16.l fun a17 u17 (h18_17 : a17.tmps.getD 18 undef = (.slice (some ⟨gs18_16, 0, none⟩) 1 1)) => ?_
  have F17 := F16.pt u17
  refine mt_p (ex_as h18_17) (Bk_2) F17.l fun a18 u18 h2_18 => ?_
  have F18 := F17.pt u18
  change Code.wp _ _ _ _ _
  refine wp_ret ?_
  try simp only [Exit.then, Exit.inBlock]
  exact bodyPost_ret (v := (.slice (some ⟨gs18_16, 0, none⟩) 1 1)) ((results_tmp rfl _ _ _).trans (by rw [h2_18])) F18.defers ⟨_, rfl, .mk Bs18_16_2 hok, Kp2.grown⟩
theorem toMaps_any {kp : Option Nat} {k : Option MapD} {w0 : World} (h : SMap w0 kp k) : Calls Tryz.prog 24 #[pto kp] w0 fun e w' => ∃ kv, e = .returned kv ∧ MapSl w' kv k ∧ w0.grownBy w' none := by
  cases h with
  | nil => exact toMaps_no
  | mk h ok => exact toMaps_yes h ok
theorem KeySl.shape {w : World} {kv : Value} {k : Option KeyD} (h : KeySl w kv k) : ∃ a n c, kv = .slice a n c := by cases h <;> exact ⟨_, _, _, rfl⟩
theorem MapSl.shape {w : World} {kv : Value} {k : Option MapD} (h : MapSl w kv k) : ∃ a n c, kv = .slice a n c := by cases h <;> exact ⟨_, _, _, rfl⟩
theorem KeySl.gk2 {w w' : World} {kv : Value} {k : Option KeyD} {g U : Nat} {cs : Array Value} (h : KeySl w kv k) (hb : Blk w g U cs) (hU : 99 ≠ U) (G : w.grownBy w' (some g)) : KeySl w' kv k := by
  cases h with
  | nil => exact .nil
  | mk h ok => exact .mk (h.gk G (h.ne_ hb hU)) ok
theorem MapSl.gk2 {w w' : World} {kv : Value} {k : Option MapD} {g U : Nat} {cs : Array Value} (h : MapSl w kv k) (hb : Blk w g U cs) (hU : 102 ≠ U) (G : w.grownBy w' (some g)) : MapSl w' kv k := by
  cases h with
  | nil => exact .nil
  | mk h ok => exact .mk (h.gk G (h.ne_ hb hU)) ok
theorem SKey.gk' {w w' : World} {kp : Option Nat} {k : Option KeyD} {g U : Nat} {cs : Array Value} (h : SKey w kp k) (hb : Blk w g U cs) (hU : 89 ≠ U) (G : w.grownBy w' (some g)) : SKey w' kp k := h.gk hb hU G
theorem one_segD {w : World} {s : SegD} {kv mv : Value} {k : Option KeyD} {m : Option MapD} (hk : KeySl w kv k) (hm : MapSl w mv m) : ∀ v ∈ (segD 0 s kv mv).toList, v.oneCell' = true := by
  intro v hv
  simp only [segD, List.mem_cons, List.not_mem_nil, or_false] at hv
  rcases hv with rfl | rfl | rfl | rfl | rfl | rfl | rfl | rfl | rfl | rfl | rfl <;> first | rfl | exact hk.one | exact hm.one
theorem toSegment_any {s : SegD} {kp mp : Option Nat} {w0 : World} (he : s.e < 4000) (hks : SKey w0 kp s.key) (hms : SMap w0 mp s.map) : Calls Tryz.prog 25 #[.agg (ssegC s kp mp)] w0 fun e w' => ∃ kv mv, e = .returned (.agg (segD 0 s kv mv)) ∧ KeySl w' kv s.key ∧ MapSl w' mv s.map ∧ w0.grownBy w' none := by
  refine calls_of_wp Tryz.func25 rfl ?_
  generalize hA : Act.mk _ _ = a0
  have F0 : Fz 28 a0 := by subst hA; exact ⟨by simp [Tryz.ntmps25], rfl⟩
  have h0_0 : a0.tmps.getD 0 undef = (.agg #[(.string s.title), (.string s.uri), (.int .i64 s.e), (.int .i64 s.li), (.int .i64 s.off), (pto kp), (pto mp), (.bool s.disc), (.string s.date)]) := by subst hA; exact fr_arg rfl
  clear hA
  have Kp0 := Kp.refl [] w0
  have sk_0 := hks
  have sm_0 := hms
  refine wp_seq ?_
  refine rg_list ?_
  obtain ⟨g1, hg1⟩ : ∃ g, w0.heap.size = g := ⟨_, rfl⟩
  have ge_1 : w0.heap.size ≤ g1 := by have := Kp0.size; omega
  obtain ⟨w1, hr1, B1_1, G1, hs1⟩ := al_run (op := Instr.box 53 (.agg #[(.string s.title), (.string s.uri), (.int .i64 s.e), (.int .i64 s.li), (.int .i64 s.off), (pto kp), (pto mp), (.bool s.disc), (.string s.date)])) (T := 53) (cs := #[(.string s.title), (.string s.uri), (.int .i64 s.e), (.int .i64 s.li), (.int .i64 s.off), (pto kp), (pto mp), (.bool s.disc), (.string s.date)]) hg1 (fun _ => by kernel_rfl)
  have Kp1 := Kp0.new G1
  have sk_1 := sk_0.gn G1
  have sm_1 := sm_0.gn G1
  refine wl_p (ex_bx h0_0 hr1) F0.l fun a1 u1 (h1_1 : a1.tmps.getD 1 undef = (.pointer (some ⟨g1, 0, none⟩))) => ?_
  have F1 := F0.pt u1
  obtain ⟨g2, hg2⟩ : ∃ g, w1.heap.size = g := ⟨_, rfl⟩
  have ne_1_2 : g1 ≠ g2 := by have := B1_1.lt; omega
  have ge_2 : w0.heap.size ≤ g2 := by have := Kp1.size; omega
  obtain ⟨w2, hr2, B2_2, G2, hs2⟩ := al_run (op := Instr.alloc 30 true (.tuple #[])) (T := 30) (cs := #[(.int .u64 0), (.string ⟨#[]⟩), (.string ⟨#[]⟩), (.float .f64 0), (.int .i64 0), (.int .i64 0), (.slice none 0 0), (.slice none 0 0), (.slice none 0 0), (.bool false), (.string ⟨#[]⟩)]) hg2 (fun _ => by kernel_rfl)
  have B1_2 := B1_1.gn G2
  have Kp2 := Kp1.new G2
  have sk_2 := sk_1.gn G2
  have sm_2 := sm_1.gn G2
  refine wl_p (ex_al hr2) F1.l fun a2 u2 (h2_2 : a2.tmps.getD 2 undef = (.pointer (some ⟨g2, 0, none⟩))) => ?_
  have F2 := F1.pt u2
  change Code.wp _ (Code.seq _ _) _ _ _
  refine wp_seq ?_
  obtain ⟨w3, hw3⟩ : ∃ w, w = w2.drew := ⟨_, rfl⟩
  have G3 : w2.grownBy w3 none := hw3 ▸ grown_drew _
  have B1_3 := B1_2.gn G3
  have B2_3 := B2_2.gn G3
  have Kp3 := Kp2.new G3
  have sk_3 := sk_2.gn G3
  have sm_3 := sm_2.gn G3
  refine rg_tree (S := fun w' => Blk w' g1 53 #[(.string s.title), (.string s.uri), (.int .i64 s.e), (.int .i64 s.li), (.int .i64 s.off), (pto kp), (pto mp), (.bool s.disc), (.string s.date)]) [0, 1, 2, 3, 4, 5, 6, 7, 8, 9, 10, 11, 12, 13, 14, 15, 16, 17, 19, 20] 5 hw3 ⟨rfl, by decide⟩ hmix (by kernel_rfl) (by kernel_rfl) (B1_3) ?_
  refine mh_p (fun w hw => ex_fb 0 (u2.w h1_1)) F2.l fun a3 u3 h4_3 => ?_
  have F3 := F2.pt u3
  refine mh_p (fun w hw => ex_le (v := (.string s.title)) h4_3 (hw.cell 0)) F3.l fun a4 u4 h5_4 => ?_
  have F4 := F3.pt u4
  have h1_4 := u4.w (u3.w (u2.w h1_1))
  refine mh_p (fun w hw => ex_fb 1 h1_4) F4.l fun a5 u5 h6_5 => ?_
  have F5 := F4.pt u5
  refine mh_p (fun w hw => ex_le (v := (.string s.uri)) h6_5 (hw.cell 1)) F5.l fun a6 u6 h7_6 => ?_
  have F6 := F5.pt u6
  refine mh_p (fun w hw => ex_fb 2 (u6.w (u5.w h1_4))) F6.l fun a7 u7 h8_7 => ?_
  have F7 := F6.pt u7
  refine mh_p (fun w hw => ex_le (v := (.int .i64 s.e)) h8_7 (hw.cell 2)) F7.l fun a8 u8 h9_8 => ?_
  have F8 := F7.pt u8
  refine mh_p (fun w hw => ex_conv (vx := (.int .i64 s.e)) (v := (.float .f64 (fn s.e))) h9_8 (cv_f64 s.e (by omega) _)) F8.l fun a9 u9 h10_9 => ?_
  have F9 := F8.pt u9
  refine mh_p (fun w hw => ex_bin (vy := (.float .f64 4620693217682128896)) (v := (.float .f64 (fb s.e))) h10_9 rfl (bo_quo8 s.e (by omega) _)) F9.l fun a10 u10 h11_10 => ?_
  have F10 := F9.pt u10
  have h1_10 := u10.w (u9.w (u8.w (u7.w (u6.w (u5.w h1_4)))))
  refine mh_p (fun w hw => ex_fb 3 h1_10) F10.l fun a11 u11 h12_11 => ?_
  have F11 := F10.pt u11
  refine mh_p (fun w hw => ex_le (v := (.int .i64 s.li)) h12_11 (hw.cell 3)) F11.l fun a12 u12 h13_12 => ?_
  have F12 := F11.pt u12
  refine mh_p (fun w hw => ex_fb 4 (u12.w (u11.w h1_10))) F12.l fun a13 u13 h14_13 => ?_
  have F13 := F12.pt u13
  refine mh_p (fun w hw => ex_le (v := (.int .i64 s.off)) h14_13 (hw.cell 4)) F13.l fun a14 u14 h15_14 => ?_
  have F14 := F13.pt u14
  have h1_14 := u14.w (u13.w (u12.w (u11.w h1_10)))
  refine mh_p (fun w hw => ex_fb 7 h1_14) F14.l fun a15 u15 h16_15 => ?_
  have F15 := F14.pt u15
  refine mh_p (fun w hw => ex_le (v := (.bool s.disc)) h16_15 (hw.cell 7)) F15.l fun a16 u16 h17_16 => ?_
  have F16 := F15.pt u16
  refine mh_p (fun w hw => ex_fb 8 (u16.w (u15.w h1_14))) F16.l fun a17 u17 h18_17 => ?_
  have F17 := F16.pt u17
  refine mh_p (fun w hw => ex_le (v := (.string s.date)) h18_17 (hw.cell 8)) F17.l fun a18 u18 h19_18 => ?_
  have F18 := F17.pt u18
  have h1_18 := u18.w (u17.w (u16.w (u15.w h1_14)))
  refine mh_p (fun w hw => ex_fb 5 h1_18) F18.l fun a19 u19 h20_19 => ?_
  have F19 := F18.pt u19
  refine mh_p (fun w hw => ex_le (v := (pto kp)) h20_19 (hw.cell 5)) F19.l fun a20 u20 h21_20 => ?_
  have F20 := F19.pt u20
  refine mh_p (fun w hw => ex_fb 6 (u20.w (u19.w h1_18))) F20.l fun a21 u21 h23_21 => ?_
  have F21 := F20.pt u21
  refine mh_p (fun w hw => ex_le (v := (pto mp)) h23_21 (hw.cell 6)) F21.l fun a22 u22 h24_22 => ?_
  have F22 := F21.pt u22
  refine tree2 (j := 18) (k := 23) (by kernel_rfl) ?_ ?_
  · refine tk_cl (args := #[(pto kp)]) (R := fun v w' => KeySl w' v s.key ∧ w3.grownBy w' none) rfl (ex_cl (fun _ _ => by kernel_rfl) (arg1 (u22.w (u21.w h21_20)))) ((toKeys_any sk_3).mono fun _ _ ⟨kv, h⟩ => ⟨_, h.1, h.2⟩) F22.l ?_
    rintro kv w4 ⟨ks_4, G4⟩
    obtain ⟨kva, kvn, kvc, rfl⟩ := KeySl.shape ks_4
    have B1_4 := B1_3.gn G4
    have B2_4 := B2_3.gn G4
    have Kp4 := Kp3.new G4
    have sm_4 := sm_3.gn G4
    refine ⟨B1_4, ?_⟩
    intro a23 u23 h22_23
    have F23 := F22.pt u23
    refine tree2 (j := 21) (k := 23) (by kernel_rfl) ?_ ?_
    · refine tk_cl (args := #[(pto mp)]) (R := fun v w' => MapSl w' v s.map ∧ w4.grownBy w' none) rfl (ex_cl (fun _ _ => by kernel_rfl) (arg1 (u23.w h24_22))) ((toMaps_any sm_4).mono fun _ _ ⟨kv, h⟩ => ⟨_, h.1, h.2⟩) F23.l ?_
      rintro mv w5 ⟨ms_5, G5⟩
      obtain ⟨mva, mvn, mvc, rfl⟩ := MapSl.shape ms_5
      have B1_5 := B1_4.gn G5
      have B2_5 := B2_4.gn G5
      have Kp5 := Kp4.new G5
      have ks_5 := ks_4.gn G5
      refine ⟨B1_5, ?_⟩
      intro a24 u24 h25_24
      have F24 := F23.pt u24
      refine tree2 (j := 22) (k := 23) (by kernel_rfl) ?_ ?_
      · have h5_24 := u24.w (u23.w (u22.w (u21.w (u20.w (u19.w (u18.w (u17.w (u16.w (u15.w (u14.w (u13.w (u12.w (u11.w (u10.w (u9.w (u8.w (u7.w (u6.w (u5.w h5_4)))))))))))))))))))
        have h7_24 := u24.w (u23.w (u22.w (u21.w (u20.w (u19.w (u18.w (u17.w (u16.w (u15.w (u14.w (u13.w (u12.w (u11.w (u10.w (u9.w (u8.w (u7.w h7_6)))))))))))))))))
        have h11_24 := u24.w (u23.w (u22.w (u21.w (u20.w (u19.w (u18.w (u17.w (u16.w (u15.w (u14.w (u13.w (u12.w (u11.w h11_10)))))))))))))
        have h13_24 := u24.w (u23.w (u22.w (u21.w (u20.w (u19.w (u18.w (u17.w (u16.w (u15.w (u14.w (u13.w h13_12)))))))))))
        have h15_24 := u24.w (u23.w (u22.w (u21.w (u20.w (u19.w (u18.w (u17.w (u16.w (u15.w h15_14)))))))))
        have h17_24 := u24.w (u23.w (u22.w (u21.w (u20.w (u19.w (u18.w (u17.w h17_16)))))))
        have h19_24 := u24.w (u23.w (u22.w (u21.w (u20.w (u19.w h19_18)))))
        refine tk_p rfl (ex_bd (w' := w5) (vs :=  #[(1, (.string s.title)), (2, (.string s.uri)), (3, (.float .f64 (fb s.e))), (4, (.int .i64 s.li)), (5, (.int .i64 s.off)), (9, (.bool s.disc)), (10, (.string s.date)), (6, (.slice kva kvn kvc)), (7, (.slice mva mvn mvc))]) (v := (.agg #[(.int .u64 0), (.string s.title), (.string s.uri), (.float .f64 (fb s.e)), (.int .i64 s.li), (.int .i64 s.off), (.slice kva kvn kvc), (.slice mva mvn mvc), (.slice none 0 0), (.bool s.disc), (.string s.date)])) (by have e1 : a24.eval (.tmp 5) = (.string s.title) := h5_24; have e2 : a24.eval (.tmp 7) = (.string s.uri) := h7_24; have e3 : a24.eval (.tmp 11) = (.float .f64 (fb s.e)) := h11_24; have e4 : a24.eval (.tmp 13) = (.int .i64 s.li) := h13_24; have e5 : a24.eval (.tmp 15) = (.int .i64 s.off) := h15_24; have e9 : a24.eval (.tmp 17) = (.bool s.disc) := h17_24; have e10 : a24.eval (.tmp 19) = (.string s.date) := h19_24; have e6 : a24.eval (.tmp 22) = (.slice kva kvn kvc) := (u24.w h22_23); have e7 : a24.eval (.tmp 25) = (.slice mva mvn mvc) := h25_24; simp only [List.map_toArray, List.map_cons, List.map_nil, e1, e2, e3, e4, e5, e9, e10, e6, e7]) (by kernel_rfl)) (B1_5) F24.l fun a25 u25 h26_25 => ?_
        have F25 := F24.pt u25
        refine tree1 (j := 23) (by kernel_rfl) ?_
        obtain ⟨g3, hg3⟩ : ∃ g, w5.heap.size = g := ⟨_, rfl⟩
        have ne_1_3 : g1 ≠ g3 := by have := B1_5.lt; omega
        have ne_2_3 : g2 ≠ g3 := by have := B2_5.lt; omega
        have ge_3 : w0.heap.size ≤ g3 := by have := Kp5.size; omega
        obtain ⟨w6, hr6, B3_6, G6, hs6⟩ := al_run (op := Instr.alloc 30 true (.tuple #[])) (T := 30) (cs := #[(.int .u64 0), (.string ⟨#[]⟩), (.string ⟨#[]⟩), (.float .f64 0), (.int .i64 0), (.int .i64 0), (.slice none 0 0), (.slice none 0 0), (.slice none 0 0), (.bool false), (.string ⟨#[]⟩)]) hg3 (fun _ => by kernel_rfl)
        have B1_6 := B1_5.gn G6
        have B2_6 := B2_5.gn G6
        have Kp6 := Kp5.new G6
        have ks_6 := ks_5.gn G6
        have ms_6 := ms_5.gn G6
        refine tk_p rfl (ex_al hr6) (B1_6) F25.l fun a26 u26 (h3_26 : a26.tmps.getD 3 undef = (.pointer (some ⟨g3, 0, none⟩))) => ?_
        have F26 := F25.pt u26
        refine tree1 (j := 24) (by kernel_rfl) ?_
        obtain ⟨w7, hr7, B3_7, G7⟩ := sta_run (T := 30) (cs := #[(.int .u64 0), (.string s.title), (.string s.uri), (.float .f64 (fb s.e)), (.int .i64 s.li), (.int .i64 s.off), (.slice kva kvn kvc), (.slice mva mvn mvc), (.slice none 0 0), (.bool s.disc), (.string s.date)]) (fun _ => by kernel_rfl) B3_6 rfl rfl (by simp [Value.oneCell'])
        have B1_7 := B1_6.gk G7 ne_1_3
        have B2_7 := B2_6.gk G7 ne_2_3
        have Kp7 := Kp6.set G7 (Or.inr ge_3)
        have ks_7 := ks_6.gk2 B3_6 (by decide) G7
        have ms_7 := ms_6.gk2 B3_6 (by decide) G7
        refine tk_n rfl (ex_st h3_26 (u26.w h26_25) hr7) (B1_7) ?_
        refine tree0 (by kernel_rfl) ?_
        change Code.wp _ (Code.seq _ _) _ _ _
        refine wp_seq ?_
        refine rg_list ?_
        refine wl_p (ex_lda h3_26 (ld_agg (n := 11) (xs := #[(.int .u64 0), (.string s.title), (.string s.uri), (.float .f64 (fb s.e)), (.int .i64 s.li), (.int .i64 s.off), (.slice kva kvn kvc), (.slice mva mvn mvc), (.slice none 0 0), (.bool s.disc), (.string s.date)]) (fun _ => by kernel_rfl) (fun _ => by kernel_rfl) B3_7 rfl (fun _ _ => by rw [Nat.zero_add] <;> rfl))) F26.l fun a27 u27 (h27_27 : a27.tmps.getD 27 undef = (.agg #[(.int .u64 0), (.string s.title), (.string s.uri), (.float .f64 (fb s.e)), (.int .i64 s.li), (.int .i64 s.off), (.slice kva kvn kvc), (.slice mva mvn mvc), (.slice none 0 0), (.bool s.disc), (.string s.date)])) => ?_
        have F27 := F26.pt u27
        obtain ⟨w8, hr8, B2_8, G8⟩ := sta_run (T := 30) (cs := #[(.int .u64 0), (.string s.title), (.string s.uri), (.float .f64 (fb s.e)), (.int .i64 s.li), (.int .i64 s.off), (.slice kva kvn kvc), (.slice mva mvn mvc), (.slice none 0 0), (.bool s.disc), (.string s.date)]) (fun _ => by kernel_rfl) B2_7 rfl rfl (by simp [Value.oneCell'])
        have B1_8 := B1_7.gk G8 ne_1_2
        have B3_8 := B3_7.gk G8 (Ne.symm ne_2_3)
        have Kp8 := Kp7.set G8 (Or.inr ge_2)
        have ks_8 := ks_7.gk2 B2_7 (by decide) G8
        have ms_8 := ms_7.gk2 B2_7 (by decide) G8
        have h2_27 := u27.w (u26.w (u25.w (u24.w (u23.w (u22.w (u21.w (u20.w (u19.w (u18.w (u17.w (u16.w (u15.w (u14.w (u13.w (u12.w (u11.w (u10.w (u9.w (u8.w (u7.w (u6.w (u5.w (u4.w (u3.w h2_2))))))))))))))))))))))))
        refine wl_n (ex_st h2_27 h27_27 hr8) ?_
        change Code.wp _ _ _ _ _
        refine wp_ret ?_
        try simp only [Exit.then, Exit.inBlock]
        exact bodyPost_ret (v := .agg #[(.int .u64 0), (.string s.title), (.string s.uri), (.float .f64 (fb s.e)), (.int .i64 s.li), (.int .i64 s.off), (.slice kva kvn kvc), (.slice mva mvn mvc), (.slice none 0 0), (.bool s.disc), (.string s.date)]) (results_cell_row rfl _ _ _ _ _ _ _ h2_27 B2_8 Tryz.underlying30 rfl (by kernel_rfl)) F27.defers ⟨_, _, rfl, ks_8, ms_8, Kp8.grown⟩
      · obtain ⟨g3, hg3⟩ : ∃ g, w5.heap.size = g := ⟨_, rfl⟩
        have ne_1_3 : g1 ≠ g3 := by have := B1_5.lt; omega
        have ne_2_3 : g2 ≠ g3 := by have := B2_5.lt; omega
        have ge_3 : w0.heap.size ≤ g3 := by have := Kp5.size; omega
        obtain ⟨w6, hr6, B3_6, G6, hs6⟩ := al_run (op := Instr.alloc 30 true (.tuple #[])) (T := 30) (cs := #[(.int .u64 0), (.string ⟨#[]⟩), (.string ⟨#[]⟩), (.float .f64 0), (.int .i64 0), (.int .i64 0), (.slice none 0 0), (.slice none 0 0), (.slice none 0 0), (.bool false), (.string ⟨#[]⟩)]) hg3 (fun _ => by kernel_rfl)
        have B1_6 := B1_5.gn G6
        have B2_6 := B2_5.gn G6
        have Kp6 := Kp5.new G6
        have ks_6 := ks_5.gn G6
        have ms_6 := ms_5.gn G6
        refine tk_p rfl (ex_al hr6) (B1_6) F24.l fun a25 u25 (h3_25 : a25.tmps.getD 3 undef = (.pointer (some ⟨g3, 0, none⟩))) => ?_
        have F25 := F24.pt u25
        refine tree1 (j := 22) (by kernel_rfl) ?_
        have h5_25 := u25.w (u24.w (u23.w (u22.w (u21.w (u20.w (u19.w (u18.w (u17.w (u16.w (u15.w (u14.w (u13.w (u12.w (u11.w (u10.w (u9.w (u8.w (u7.w (u6.w (u5.w h5_4))))))))))))))))))))
        have h7_25 := u25.w (u24.w (u23.w (u22.w (u21.w (u20.w (u19.w (u18.w (u17.w (u16.w (u15.w (u14.w (u13.w (u12.w (u11.w (u10.w (u9.w (u8.w (u7.w h7_6))))))))))))))))))
        have h11_25 := u25.w (u24.w (u23.w (u22.w (u21.w (u20.w (u19.w (u18.w (u17.w (u16.w (u15.w (u14.w (u13.w (u12.w (u11.w h11_10))))))))))))))
        have h13_25 := u25.w (u24.w (u23.w (u22.w (u21.w (u20.w (u19.w (u18.w (u17.w (u16.w (u15.w (u14.w (u13.w h13_12))))))))))))
        have h15_25 := u25.w (u24.w (u23.w (u22.w (u21.w (u20.w (u19.w (u18.w (u17.w (u16.w (u15.w h15_14))))))))))
        have h17_25 := u25.w (u24.w (u23.w (u22.w (u21.w (u20.w (u19.w (u18.w (u17.w h17_16))))))))
        have h19_25 := u25.w (u24.w (u23.w (u22.w (u21.w (u20.w (u19.w h19_18))))))
        refine tk_p rfl (ex_bd (w' := w6) (vs :=  #[(1, (.string s.title)), (2, (.string s.uri)), (3, (.float .f64 (fb s.e))), (4, (.int .i64 s.li)), (5, (.int .i64 s.off)), (9, (.bool s.disc)), (10, (.string s.date)), (6, (.slice kva kvn kvc)), (7, (.slice mva mvn mvc))]) (v := (.agg #[(.int .u64 0), (.string s.title), (.string s.uri), (.float .f64 (fb s.e)), (.int .i64 s.li), (.int .i64 s.off), (.slice kva kvn kvc), (.slice mva mvn mvc), (.slice none 0 0), (.bool s.disc), (.string s.date)])) (by have e1 : a25.eval (.tmp 5) = (.string s.title) := h5_25; have e2 : a25.eval (.tmp 7) = (.string s.uri) := h7_25; have e3 : a25.eval (.tmp 11) = (.float .f64 (fb s.e)) := h11_25; have e4 : a25.eval (.tmp 13) = (.int .i64 s.li) := h13_25; have e5 : a25.eval (.tmp 15) = (.int .i64 s.off) := h15_25; have e9 : a25.eval (.tmp 17) = (.bool s.disc) := h17_25; have e10 : a25.eval (.tmp 19) = (.string s.date) := h19_25; have e6 : a25.eval (.tmp 22) = (.slice kva kvn kvc) := (u25.w (u24.w h22_23)); have e7 : a25.eval (.tmp 25) = (.slice mva mvn mvc) := (u25.w h25_24); simp only [List.map_toArray, List.map_cons, List.map_nil, e1, e2, e3, e4, e5, e9, e10, e6, e7]) (by kernel_rfl)) (B1_6) F25.l fun a26 u26 h26_26 => ?_
        have F26 := F25.pt u26
        refine tree1 (j := 24) (by kernel_rfl) ?_
        obtain ⟨w7, hr7, B3_7, G7⟩ := sta_run (T := 30) (cs := #[(.int .u64 0), (.string s.title), (.string s.uri), (.float .f64 (fb s.e)), (.int .i64 s.li), (.int .i64 s.off), (.slice kva kvn kvc), (.slice mva mvn mvc), (.slice none 0 0), (.bool s.disc), (.string s.date)]) (fun _ => by kernel_rfl) B3_6 rfl rfl (by simp [Value.oneCell'])
        have B1_7 := B1_6.gk G7 ne_1_3
        have B2_7 := B2_6.gk G7 ne_2_3
        have Kp7 := Kp6.set G7 (Or.inr ge_3)
        have ks_7 := ks_6.gk2 B3_6 (by decide) G7
        have ms_7 := ms_6.gk2 B3_6 (by decide) G7
        refine tk_n rfl (ex_st (u26.w h3_25) h26_26 hr7) (B1_7) ?_
        refine tree0 (by kernel_rfl) ?_
        change Code.wp _ (Code.seq _ _) _ _ _
        refine wp_seq ?_
        refine rg_list ?_
        refine wl_p (ex_lda (u26.w h3_25) (ld_agg (n := 11) (xs := #[(.int .u64 0), (.string s.title), (.string s.uri), (.float .f64 (fb s.e)), (.int .i64 s.li), (.int .i64 s.off), (.slice kva kvn kvc), (.slice mva mvn mvc), (.slice none 0 0), (.bool s.disc), (.string s.date)]) (fun _ => by kernel_rfl) (fun _ => by kernel_rfl) B3_7 rfl (fun _ _ => by rw [Nat.zero_add] <;> rfl))) F26.l fun a27 u27 (h27_27 : a27.tmps.getD 27 undef = (.agg #[(.int .u64 0), (.string s.title), (.string s.uri), (.float .f64 (fb s.e)), (.int .i64 s.li), (.int .i64 s.off), (.slice kva kvn kvc), (.slice mva mvn mvc), (.slice none 0 0), (.bool s.disc), (.string s.date)])) => ?_
        have F27 := F26.pt u27
        obtain ⟨w8, hr8, B2_8, G8⟩ := sta_run (T := 30) (cs := #[(.int .u64 0), (.string s.title), (.string s.uri), (.float .f64 (fb s.e)), (.int .i64 s.li), (.int .i64 s.off), (.slice kva kvn kvc), (.slice mva mvn mvc), (.slice none 0 0), (.bool s.disc), (.string s.date)]) (fun _ => by kernel_rfl) B2_7 rfl rfl (by simp [Value.oneCell'])
        have B1_8 := B1_7.gk G8 ne_1_2
        have B3_8 := B3_7.gk G8 (Ne.symm ne_2_3)
        have Kp8 := Kp7.set G8 (Or.inr ge_2)
        have ks_8 := ks_7.gk2 B2_7 (by decide) G8
        have ms_8 := ms_7.gk2 B2_7 (by decide) G8
        have h2_27 := u27.w (u26.w (u25.w (u24.w (u23.w (u22.w (u21.w (u20.w (u19.w (u18.w (u17.w (u16.w (u15.w (u14.w (u13.w (u12.w (u11.w (u10.w (u9.w (u8.w (u7.w (u6.w (u5.w (u4.w (u3.w h2_2))))))))))))))))))))))))
        refine wl_n (ex_st h2_27 h27_27 hr8) ?_
        change Code.wp _ _ _ _ _
        refine wp_ret ?_
        try simp only [Exit.then, Exit.inBlock]
        exact bodyPost_ret (v := .agg #[(.int .u64 0), (.string s.title), (.string s.uri), (.float .f64 (fb s.e)), (.int .i64 s.li), (.int .i64 s.off), (.slice kva kvn kvc), (.slice mva mvn mvc), (.slice none 0 0), (.bool s.disc), (.string s.date)]) (results_cell_row rfl _ _ _ _ _ _ _ h2_27 B2_8 Tryz.underlying30 rfl (by kernel_rfl)) F27.defers ⟨_, _, rfl, ks_8, ms_8, Kp8.grown⟩
    · obtain ⟨g3, hg3⟩ : ∃ g, w4.heap.size = g := ⟨_, rfl⟩
      have ne_1_3 : g1 ≠ g3 := by have := B1_4.lt; omega
      have ne_2_3 : g2 ≠ g3 := by have := B2_4.lt; omega
      have ge_3 : w0.heap.size ≤ g3 := by have := Kp4.size; omega
      obtain ⟨w5, hr5, B3_5, G5, hs5⟩ := al_run (op := Instr.alloc 30 true (.tuple #[])) (T := 30) (cs := #[(.int .u64 0), (.string ⟨#[]⟩), (.string ⟨#[]⟩), (.float .f64 0), (.int .i64 0), (.int .i64 0), (.slice none 0 0), (.slice none 0 0), (.slice none 0 0), (.bool false), (.string ⟨#[]⟩)]) hg3 (fun _ => by kernel_rfl)
      have B1_5 := B1_4.gn G5
      have B2_5 := B2_4.gn G5
      have Kp5 := Kp4.new G5
      have sm_5 := sm_4.gn G5
      have ks_5 := ks_4.gn G5
      refine tk_p rfl (ex_al hr5) (B1_5) F23.l fun a24 u24 (h3_24 : a24.tmps.getD 3 undef = (.pointer (some ⟨g3, 0, none⟩))) => ?_
      have F24 := F23.pt u24
      refine tree1 (j := 21) (by kernel_rfl) ?_
      refine tk_cl (args := #[(pto mp)]) (R := fun v w' => MapSl w' v s.map ∧ w5.grownBy w' none) rfl (ex_cl (fun _ _ => by kernel_rfl) (arg1 (u24.w (u23.w h24_22)))) ((toMaps_any sm_5).mono fun _ _ ⟨kv, h⟩ => ⟨_, h.1, h.2⟩) F24.l ?_
      rintro mv w6 ⟨ms_6, G6⟩
      obtain ⟨mva, mvn, mvc, rfl⟩ := MapSl.shape ms_6
      have B1_6 := B1_5.gn G6
      have B2_6 := B2_5.gn G6
      have B3_6 := B3_5.gn G6
      have Kp6 := Kp5.new G6
      have ks_6 := ks_5.gn G6
      refine ⟨B1_6, ?_⟩
      intro a25 u25 h25_25
      have F25 := F24.pt u25
      refine tree1 (j := 22) (by kernel_rfl) ?_
      have h5_25 := u25.w (u24.w (u23.w (u22.w (u21.w (u20.w (u19.w (u18.w (u17.w (u16.w (u15.w (u14.w (u13.w (u12.w (u11.w (u10.w (u9.w (u8.w (u7.w (u6.w (u5.w h5_4))))))))))))))))))))
      have h7_25 := u25.w (u24.w (u23.w (u22.w (u21.w (u20.w (u19.w (u18.w (u17.w (u16.w (u15.w (u14.w (u13.w (u12.w (u11.w (u10.w (u9.w (u8.w (u7.w h7_6))))))))))))))))))
      have h11_25 := u25.w (u24.w (u23.w (u22.w (u21.w (u20.w (u19.w (u18.w (u17.w (u16.w (u15.w (u14.w (u13.w (u12.w (u11.w h11_10))))))))))))))
      have h13_25 := u25.w (u24.w (u23.w (u22.w (u21.w (u20.w (u19.w (u18.w (u17.w (u16.w (u15.w (u14.w (u13.w h13_12))))))))))))
      have h15_25 := u25.w (u24.w (u23.w (u22.w (u21.w (u20.w (u19.w (u18.w (u17.w (u16.w (u15.w h15_14))))))))))
      have h17_25 := u25.w (u24.w (u23.w (u22.w (u21.w (u20.w (u19.w (u18.w (u17.w h17_16))))))))
      have h19_25 := u25.w (u24.w (u23.w (u22.w (u21.w (u20.w (u19.w h19_18))))))
      refine tk_p rfl (ex_bd (w' := w6) (vs :=  #[(1, (.string s.title)), (2, (.string s.uri)), (3, (.float .f64 (fb s.e))), (4, (.int .i64 s.li)), (5, (.int .i64 s.off)), (9, (.bool s.disc)), (10, (.string s.date)), (6, (.slice kva kvn kvc)), (7, (.slice mva mvn mvc))]) (v := (.agg #[(.int .u64 0), (.string s.title), (.string s.uri), (.float .f64 (fb s.e)), (.int .i64 s.li), (.int .i64 s.off), (.slice kva kvn kvc), (.slice mva mvn mvc), (.slice none 0 0), (.bool s.disc), (.string s.date)])) (by have e1 : a25.eval (.tmp 5) = (.string s.title) := h5_25; have e2 : a25.eval (.tmp 7) = (.string s.uri) := h7_25; have e3 : a25.eval (.tmp 11) = (.float .f64 (fb s.e)) := h11_25; have e4 : a25.eval (.tmp 13) = (.int .i64 s.li) := h13_25; have e5 : a25.eval (.tmp 15) = (.int .i64 s.off) := h15_25; have e9 : a25.eval (.tmp 17) = (.bool s.disc) := h17_25; have e10 : a25.eval (.tmp 19) = (.string s.date) := h19_25; have e6 : a25.eval (.tmp 22) = (.slice kva kvn kvc) := (u25.w (u24.w h22_23)); have e7 : a25.eval (.tmp 25) = (.slice mva mvn mvc) := h25_25; simp only [List.map_toArray, List.map_cons, List.map_nil, e1, e2, e3, e4, e5, e9, e10, e6, e7]) (by kernel_rfl)) (B1_6) F25.l fun a26 u26 h26_26 => ?_
      have F26 := F25.pt u26
      refine tree1 (j := 24) (by kernel_rfl) ?_
      obtain ⟨w7, hr7, B3_7, G7⟩ := sta_run (T := 30) (cs := #[(.int .u64 0), (.string s.title), (.string s.uri), (.float .f64 (fb s.e)), (.int .i64 s.li), (.int .i64 s.off), (.slice kva kvn kvc), (.slice mva mvn mvc), (.slice none 0 0), (.bool s.disc), (.string s.date)]) (fun _ => by kernel_rfl) B3_6 rfl rfl (by simp [Value.oneCell'])
      have B1_7 := B1_6.gk G7 ne_1_3
      have B2_7 := B2_6.gk G7 ne_2_3
      have Kp7 := Kp6.set G7 (Or.inr ge_3)
      have ks_7 := ks_6.gk2 B3_6 (by decide) G7
      have ms_7 := ms_6.gk2 B3_6 (by decide) G7
      refine tk_n rfl (ex_st (u26.w (u25.w h3_24)) h26_26 hr7) (B1_7) ?_
      refine tree0 (by kernel_rfl) ?_
      change Code.wp _ (Code.seq _ _) _ _ _
      refine wp_seq ?_
      refine rg_list ?_
      refine wl_p (ex_lda (u26.w (u25.w h3_24)) (ld_agg (n := 11) (xs := #[(.int .u64 0), (.string s.title), (.string s.uri), (.float .f64 (fb s.e)), (.int .i64 s.li), (.int .i64 s.off), (.slice kva kvn kvc), (.slice mva mvn mvc), (.slice none 0 0), (.bool s.disc), (.string s.date)]) (fun _ => by kernel_rfl) (fun _ => by kernel_rfl) B3_7 rfl (fun _ _ => by rw [Nat.zero_add] <;> rfl))) F26.l fun a27 u27 (h27_27 : a27.tmps.getD 27 undef = (.agg #[(.int .u64 0), (.string s.title), (.string s.uri), (.float .f64 (fb s.e)), (.int .i64 s.li), (.int .i64 s.off), (.slice kva kvn kvc), (.slice mva mvn mvc), (.slice none 0 0), (.bool s.disc), (.string s.date)])) => ?_
      have F27 := F26.pt u27
      obtain ⟨w8, hr8, B2_8, G8⟩ := sta_run (T := 30) (cs := #[(.int .u64 0), (.string s.title), (.string s.uri), (.float .f64 (fb s.e)), (.int .i64 s.li), (.int .i64 s.off), (.slice kva kvn kvc), (.slice mva mvn mvc), (.slice none 0 0), (.bool s.disc), (.string s.date)]) (fun _ => by kernel_rfl) B2_7 rfl rfl (by simp [Value.oneCell'])
      have B1_8 := B1_7.gk G8 ne_1_2
      have B3_8 := B3_7.gk G8 (Ne.symm ne_2_3)
      have Kp8 := Kp7.set G8 (Or.inr ge_2)
      have ks_8 := ks_7.gk2 B2_7 (by decide) G8
      have ms_8 := ms_7.gk2 B2_7 (by decide) G8
      have h2_27 := u27.w (u26.w (u25.w (u24.w (u23.w (u22.w (u21.w (u20.w (u19.w (u18.w (u17.w (u16.w (u15.w (u14.w (u13.w (u12.w (u11.w (u10.w (u9.w (u8.w (u7.w (u6.w (u5.w (u4.w (u3.w h2_2))))))))))))))))))))))))
      refine wl_n (ex_st h2_27 h27_27 hr8) ?_
      change Code.wp _ _ _ _ _
      refine wp_ret ?_
      try simp only [Exit.then, Exit.inBlock]
      exact bodyPost_ret (v := .agg #[(.int .u64 0), (.string s.title), (.string s.uri), (.float .f64 (fb s.e)), (.int .i64 s.li), (.int .i64 s.off), (.slice kva kvn kvc), (.slice mva mvn mvc), (.slice none 0 0), (.bool s.disc), (.string s.date)]) (results_cell_row rfl _ _ _ _ _ _ _ h2_27 B2_8 Tryz.underlying30 rfl (by kernel_rfl)) F27.defers ⟨_, _, rfl, ks_8, ms_8, Kp8.grown⟩
  · obtain ⟨g3, hg3⟩ : ∃ g, w3.heap.size = g := ⟨_, rfl⟩
    have ne_1_3 : g1 ≠ g3 := by have := B1_3.lt; omega
    have ne_2_3 : g2 ≠ g3 := by have := B2_3.lt; omega
    have ge_3 : w0.heap.size ≤ g3 := by have := Kp3.size; omega
    obtain ⟨w4, hr4, B3_4, G4, hs4⟩ := al_run (op := Instr.alloc 30 true (.tuple #[])) (T := 30) (cs := #[(.int .u64 0), (.string ⟨#[]⟩), (.string ⟨#[]⟩), (.float .f64 0), (.int .i64 0), (.int .i64 0), (.slice none 0 0), (.slice none 0 0), (.slice none 0 0), (.bool false), (.string ⟨#[]⟩)]) hg3 (fun _ => by kernel_rfl)
    have B1_4 := B1_3.gn G4
    have B2_4 := B2_3.gn G4
    have Kp4 := Kp3.new G4
    have sk_4 := sk_3.gn G4
    have sm_4 := sm_3.gn G4
    refine tk_p rfl (ex_al hr4) (B1_4) F22.l fun a23 u23 (h3_23 : a23.tmps.getD 3 undef = (.pointer (some ⟨g3, 0, none⟩))) => ?_
    have F23 := F22.pt u23
    refine tree1 (j := 18) (by kernel_rfl) ?_
    have h21_23 := u23.w (u22.w (u21.w h21_20))
    refine tk_cl (args := #[(pto kp)]) (R := fun v w' => KeySl w' v s.key ∧ w4.grownBy w' none) rfl (ex_cl (fun _ _ => by kernel_rfl) (arg1 h21_23)) ((toKeys_any sk_4).mono fun _ _ ⟨kv, h⟩ => ⟨_, h.1, h.2⟩) F23.l ?_
    rintro kv w5 ⟨ks_5, G5⟩
    obtain ⟨kva, kvn, kvc, rfl⟩ := KeySl.shape ks_5
    have B1_5 := B1_4.gn G5
    have B2_5 := B2_4.gn G5
    have B3_5 := B3_4.gn G5
    have Kp5 := Kp4.new G5
    have sm_5 := sm_4.gn G5
    refine ⟨B1_5, ?_⟩
    intro a24 u24 h22_24
    have F24 := F23.pt u24
    refine tree1 (j := 21) (by kernel_rfl) ?_
    refine tk_cl (args := #[(pto mp)]) (R := fun v w' => MapSl w' v s.map ∧ w5.grownBy w' none) rfl (ex_cl (fun _ _ => by kernel_rfl) (arg1 (u24.w (u23.w h24_22)))) ((toMaps_any sm_5).mono fun _ _ ⟨kv, h⟩ => ⟨_, h.1, h.2⟩) F24.l ?_
    rintro mv w6 ⟨ms_6, G6⟩
    obtain ⟨mva, mvn, mvc, rfl⟩ := MapSl.shape ms_6
    have B1_6 := B1_5.gn G6
    have B2_6 := B2_5.gn G6
    have B3_6 := B3_5.gn G6
    have Kp6 := Kp5.new G6
    have ks_6 := ks_5.gn G6
    refine ⟨B1_6, ?_⟩
    intro a25 u25 h25_25
    have F25 := F24.pt u25
    refine tree1 (j := 22) (by kernel_rfl) ?_
    have h5_25 := u25.w (u24.w (u23.w (u22.w (u21.w (u20.w (u19.w (u18.w (u17.w (u16.w (u15.w (u14.w (u13.w (u12.w (u11.w (u10.w (u9.w (u8.w (u7.w (u6.w (u5.w h5_4))))))))))))))))))))
    have h7_25 := u25.w (u24.w (u23.w (u22.w (u21.w (u20.w (u19.w (u18.w (u17.w (u16.w (u15.w (u14.w (u13.w (u12.w (u11.w (u10.w (u9.w (u8.w (u7.w h7_6))))))))))))))))))
    have h11_25 := u25.w (u24.w (u23.w (u22.w (u21.w (u20.w (u19.w (u18.w (u17.w (u16.w (u15.w (u14.w (u13.w (u12.w (u11.w h11_10))))))))))))))
    have h13_25 := u25.w (u24.w (u23.w (u22.w (u21.w (u20.w (u19.w (u18.w (u17.w (u16.w (u15.w (u14.w (u13.w h13_12))))))))))))
    have h15_25 := u25.w (u24.w (u23.w (u22.w (u21.w (u20.w (u19.w (u18.w (u17.w (u16.w (u15.w h15_14))))))))))
    have h17_25 := u25.w (u24.w (u23.w (u22.w (u21.w (u20.w (u19.w (u18.w (u17.w h17_16))))))))
    have h19_25 := u25.w (u24.w (u23.w (u22.w (u21.w (u20.w (u19.w h19_18))))))
    refine tk_p rfl (ex_bd (w' := w6) (vs :=  #[(1, (.string s.title)), (2, (.string s.uri)), (3, (.float .f64 (fb s.e))), (4, (.int .i64 s.li)), (5, (.int .i64 s.off)), (9, (.bool s.disc)), (10, (.string s.date)), (6, (.slice kva kvn kvc)), (7, (.slice mva mvn mvc))]) (v := (.agg #[(.int .u64 0), (.string s.title), (.string s.uri), (.float .f64 (fb s.e)), (.int .i64 s.li), (.int .i64 s.off), (.slice kva kvn kvc), (.slice mva mvn mvc), (.slice none 0 0), (.bool s.disc), (.string s.date)])) (by have e1 : a25.eval (.tmp 5) = (.string s.title) := h5_25; have e2 : a25.eval (.tmp 7) = (.string s.uri) := h7_25; have e3 : a25.eval (.tmp 11) = (.float .f64 (fb s.e)) := h11_25; have e4 : a25.eval (.tmp 13) = (.int .i64 s.li) := h13_25; have e5 : a25.eval (.tmp 15) = (.int .i64 s.off) := h15_25; have e9 : a25.eval (.tmp 17) = (.bool s.disc) := h17_25; have e10 : a25.eval (.tmp 19) = (.string s.date) := h19_25; have e6 : a25.eval (.tmp 22) = (.slice kva kvn kvc) := (u25.w h22_24); have e7 : a25.eval (.tmp 25) = (.slice mva mvn mvc) := h25_25; simp only [List.map_toArray, List.map_cons, List.map_nil, e1, e2, e3, e4, e5, e9, e10, e6, e7]) (by kernel_rfl)) (B1_6) F25.l fun a26 u26 h26_26 => ?_
    have F26 := F25.pt u26
    refine tree1 (j := 24) (by kernel_rfl) ?_
    obtain ⟨w7, hr7, B3_7, G7⟩ := sta_run (T := 30) (cs := #[(.int .u64 0), (.string s.title), (.string s.uri), (.float .f64 (fb s.e)), (.int .i64 s.li), (.int .i64 s.off), (.slice kva kvn kvc), (.slice mva mvn mvc), (.slice none 0 0), (.bool s.disc), (.string s.date)]) (fun _ => by kernel_rfl) B3_6 rfl rfl (by simp [Value.oneCell'])
    have B1_7 := B1_6.gk G7 ne_1_3
    have B2_7 := B2_6.gk G7 ne_2_3
    have Kp7 := Kp6.set G7 (Or.inr ge_3)
    have ks_7 := ks_6.gk2 B3_6 (by decide) G7
    have ms_7 := ms_6.gk2 B3_6 (by decide) G7
    have h3_26 := u26.w (u25.w (u24.w h3_23))
    refine tk_n rfl (ex_st h3_26 h26_26 hr7) (B1_7) ?_
    refine tree0 (by kernel_rfl) ?_
    change Code.wp _ (Code.seq _ _) _ _ _
    refine wp_seq ?_
    refine rg_list ?_
    refine wl_p (ex_lda h3_26 (ld_agg (n := 11) (xs := #[(.int .u64 0), (.string s.title), (.string s.uri), (.float .f64 (fb s.e)), (.int .i64 s.li), (.int .i64 s.off), (.slice kva kvn kvc), (.slice mva mvn mvc), (.slice none 0 0), (.bool s.disc), (.string s.date)]) (fun _ => by kernel_rfl) (fun _ => by kernel_rfl) B3_7 rfl (fun _ _ => by rw [Nat.zero_add] <;> rfl))) F26.l fun a27 u27 (h27_27 : a27.tmps.getD 27 undef = (.agg #[(.int .u64 0), (.string s.title), (.string s.uri), (.float .f64 (fb s.e)), (.int .i64 s.li), (.int .i64 s.off), (.slice kva kvn kvc), (.slice mva mvn mvc), (.slice none 0 0), (.bool s.disc), (.string s.date)])) => ?_
    have F27 := F26.pt u27
    obtain ⟨w8, hr8, B2_8, G8⟩ := sta_run (T := 30) (cs := #[(.int .u64 0), (.string s.title), (.string s.uri), (.float .f64 (fb s.e)), (.int .i64 s.li), (.int .i64 s.off), (.slice kva kvn kvc), (.slice mva mvn mvc), (.slice none 0 0), (.bool s.disc), (.string s.date)]) (fun _ => by kernel_rfl) B2_7 rfl rfl (by simp [Value.oneCell'])
    have B1_8 := B1_7.gk G8 ne_1_2
    have B3_8 := B3_7.gk G8 (Ne.symm ne_2_3)
    have Kp8 := Kp7.set G8 (Or.inr ge_2)
    have ks_8 := ks_7.gk2 B2_7 (by decide) G8
    have ms_8 := ms_7.gk2 B2_7 (by decide) G8
    have h2_27 := u27.w (u26.w (u25.w (u24.w (u23.w (u22.w (u21.w (u20.w (u19.w (u18.w (u17.w (u16.w (u15.w (u14.w (u13.w (u12.w (u11.w (u10.w (u9.w (u8.w (u7.w (u6.w (u5.w (u4.w (u3.w h2_2))))))))))))))))))))))))
    refine wl_n (ex_st h2_27 h27_27 hr8) ?_
    change Code.wp _ _ _ _ _
    refine wp_ret ?_
    try simp only [Exit.then, Exit.inBlock]
    exact bodyPost_ret (v := .agg #[(.int .u64 0), (.string s.title), (.string s.uri), (.float .f64 (fb s.e)), (.int .i64 s.li), (.int .i64 s.off), (.slice kva kvn kvc), (.slice mva mvn mvc), (.slice none 0 0), (.bool s.disc), (.string s.date)]) (results_cell_row rfl _ _ _ _ _ _ _ h2_27 B2_8 Tryz.underlying30 rfl (by kernel_rfl)) F27.defers ⟨_, _, rfl, ks_8, ms_8, Kp8.grown⟩
/-- a playlist as the thin package's data -/
def impC (m : MedD) (iv kv mv : Value) (win : Nat) : Array Value := #[(.float .f64 (fn m.td)), (.int .u64 m.seq), iv, (.string ⟨#[]⟩), (.bool m.ifr), (.bool m.clo), (.int .i64 m.ty), (.int .u64 m.dsq), (.float .f64 (fb m.st)), (.bool m.pre), (.int .i64 m.ver), kv, mv, .int .i64 win]
noncomputable def tmB : Code := Tryz.f9.body.getD .skip
theorem IRow.one {w : World} {base : Nat} {v : Value} {segs : List SegD} (h : IRow w base v segs) : v.oneCell' = true := by
  obtain ⟨xs, ⟨h1, h2⟩, h3⟩ := h
  rcases h2 with ⟨rfl, h2⟩ | ⟨r, cap, cur, rfl, _⟩ <;> rfl
theorem IRow.gk {w w' : World} {base g U : Nat} {v : Value} {segs : List SegD} {cs : Array Value} (h : IRow w base v segs) (hb : Blk w g U cs) (h1 : 30 ≠ U) (h2 : 99 ≠ U) (h3 : 102 ≠ U) (G : w.grownBy w' (some g)) : IRow w' base v segs := by
  obtain ⟨xs, h4, h5⟩ := h
  refine ⟨xs, own_gk h4 hb h1 G, fun i s hs => ?_⟩
  obtain ⟨kp, mp, h6, h7, h8⟩ := h5 i s hs
  exact ⟨kp, mp, h6, h7.gk2 hb h2 G, h8.gk2 hb h3 G⟩
theorem one_impC {w : World} {m : MedD} {iv kv mv : Value} {win : Nat} {k : Option KeyD} {mm : Option MapD} (hi : iv.oneCell' = true) (hk : KeySl w kv k) (hm : MapSl w mv mm) : ∀ v ∈ (impC m iv kv mv win).toList, v.oneCell' = true := by
  intro v hv
  simp only [impC, List.mem_cons, List.not_mem_nil, or_false] at hv
  rcases hv with rfl | rfl | rfl | rfl | rfl | rfl | rfl | rfl | rfl | rfl | rfl | rfl | rfl | rfl <;> first | rfl | exact hk.one | exact hm.one | exact hi
structure JTo (w0 : World) (sv : Value) (m : MedD) (kp mp : Option Nat) (segs : List SegD) (key : Option KeyD) (map : Option MapD) (g1 g2 g3 : Nat) (j : Nat) (a : Act) (w : World) : Prop where
  fz : Fz 50 a
  t1 : a.tmps.getD 1 undef = .pointer (some ⟨g1, 0, none⟩)
  t2 : a.tmps.getD 2 undef = .pointer (some ⟨g2, 0, none⟩)
  t3 : a.tmps.getD 3 undef = .pointer (some ⟨g3, 0, none⟩)
  b1 : Blk w g1 44 (medC m kp mp sv)
  b2 : Blk w g2 36 #[(.float .f64 0), (.int .u64 0), (.slice none 0 0), (.string ⟨#[]⟩), (.bool false), (.bool false), (.int .i64 0), (.int .u64 0), (.float .f64 0), (.bool false), (.int .i64 0), (.slice none 0 0), (.slice none 0 0), (.int .i64 0)]
  b3 : ∃ iv kv mv, Blk w g3 36 (impC m iv kv mv 0) ∧ IRow w w0.heap.size iv (segs.take j) ∧ KeySl w kv key ∧ MapSl w mv map
  kp : Kp [] w0 w
  h1 : w0.heap.size ≤ g1
  h2 : w0.heap.size ≤ g2
  h3 : w0.heap.size ≤ g3
  n12 : g1 ≠ g2
  n13 : g1 ≠ g3
  n23 : g2 ≠ g3
section
variable {w00 w0 w : World} {sv : Value} {m : MedD} {kp mp : Option Nat} {segs : List SegD} {key : Option KeyD} {map : Option MapD} {g1 g2 g3 base j : Nat} {a0 : Act} {Q : Exit → Act → World → Prop}

theorem tm_round (hR : SRow w00 base sv segs) (hl : segs.length ≤ 12) (he : ∀ s ∈ segs, s.e < 4000) (hj : j < segs.length) (hJ : JTo w00 sv m kp mp segs key map g1 g2 g3 j a0 w0) (h35_0 : a0.tmps.getD 35 undef = sv) (h36_0 : a0.tmps.getD 36 undef = .int .i64 segs.length) (h37_0 : a0.tmps.getD 37 undef = .int .i64 j)
    (hK : ∀ a' w', (JTo w00 sv m kp mp segs key map g1 g2 g3 (j + 1) a' w' ∧ a'.tmps.getD 35 undef = sv ∧ a'.tmps.getD 36 undef = .int .i64 segs.length ∧ a'.tmps.getD 37 undef = .int .i64 (j + 1 : Nat)) → Q .normal a' w') : (cat [1, 1, 0, 1, 0, 0] tmB).wp Tryz.prog Q a0 w0 := by
  change Code.wp _ (Code.seq _ _) _ _ _
  obtain ⟨F0, h1_0, h2_0, h3_0, B1_0, B2_0, ⟨iv, kv, mv, B3_0, R_0, ks_0, ms_0⟩, Kp0, hg1, hg2, hg3, hn12, hn13, hn23⟩ := hJ
  obtain ⟨ad, kp2, mp2, hix, hld, hk2, hm2⟩ := hR.elem hj
  obtain ⟨s, hs⟩ : ∃ s, segs[j] = s := ⟨_, rfl⟩
  have hes : s.e < 4000 := by rw [← hs]; exact he _ (List.getElem_mem hj)
  rw [hs] at hld hk2 hm2
  refine wp_seq ?_
  refine rg_list ?_
  refine wl_p (ex_bin (v := (.bool true)) h37_0 h36_0 (bo_lss_yes _ _ hj _)) F0.l fun a1 u1 h38_1 => ?_
  have F1 := F0.pt u1
  change Code.wp _ _ _ _ _
  refine wp_seq ?_
  refine wp_cond_true h38_1 ?_
  refine wp_skip ?_
  change Code.wp _ _ _ _ _
  refine wp_seq ?_
  refine wp_block ?_
  refine wp_seq ?_
  refine rg_list ?_
  refine wl_p (ex_ixg (v := .pointer (some ad)) (u1.w h35_0) (u1.w h37_0) (hix _)) F1.l fun a2 u2 h39_2 => ?_
  have F2 := F1.pt u2
  refine wl_p (ex_lda h39_2 (hld _ Kp0)) F2.l fun a3 u3 (h40_3 : a3.tmps.getD 40 undef = (.agg #[(.string s.title), (.string s.uri), (.int .i64 s.e), (.int .i64 s.li), (.int .i64 s.off), (pto kp2), (pto mp2), (.bool s.disc), (.string s.date)])) => ?_
  have F3 := F2.pt u3
  obtain ⟨gb5, hgb5⟩ : ∃ g, w0.heap.size = g := ⟨_, rfl⟩
  have ne_1_b5 : g1 ≠ gb5 := by have := B1_0.lt; omega
  have ne_2_b5 : g2 ≠ gb5 := by have := B2_0.lt; omega
  have ne_3_b5 : g3 ≠ gb5 := by have := B3_0.lt; omega
  have ge_b5 : w00.heap.size ≤ gb5 := by have := Kp0.size; omega
  obtain ⟨w1, hr1, Bb5_1, G1, hs1⟩ := al_run (op := Instr.alloc 53 true (.tuple #[])) (T := 53) (cs := #[(.string ⟨#[]⟩), (.string ⟨#[]⟩), (.int .i64 0), (.int .i64 0), (.int .i64 0), (.pointer none), (.pointer none), (.bool false), (.string ⟨#[]⟩)]) hgb5 (fun _ => by kernel_rfl)
  have B1_1 := B1_0.gn G1
  have B2_1 := B2_0.gn G1
  have B3_1 := B3_0.gn G1
  have Kp1 := Kp0.new G1
  have R_1 := R_0.gn G1
  have ks_1 := ks_0.gn G1
  have ms_1 := ms_0.gn G1
  refine wl_p (ex_al hr1) F3.l fun a4 u4 (h5_4 : a4.tmps.getD 5 undef = (.pointer (some ⟨gb5, 0, none⟩))) => ?_
  have F4 := F3.pt u4
  clear hgb5
  obtain ⟨w2, hr2, Bb5_2, G2⟩ := sta_run (T := 53) (cs := #[(.string s.title), (.string s.uri), (.int .i64 s.e), (.int .i64 s.li), (.int .i64 s.off), (pto kp2), (pto mp2), (.bool s.disc), (.string s.date)]) (fun _ => by kernel_rfl) Bb5_1 rfl rfl (by first | exact one_impC R_1.one ks_1 ms_1 | exact one_ssegC _ _ _ | simp [Value.oneCell'])
  have B1_2 := B1_1.gk G2 ne_1_b5
  have B2_2 := B2_1.gk G2 ne_2_b5
  have B3_2 := B3_1.gk G2 ne_3_b5
  have Kp2 := Kp1.set G2 (Or.inr ge_b5)
  have R_2 := R_1.gk Bb5_1 (by decide) (by decide) (by decide) G2
  have ks_2 := ks_1.gk2 Bb5_1 (by decide) G2
  have ms_2 := ms_1.gk2 Bb5_1 (by decide) G2
  refine wl_n (ex_st h5_4 (u4.w h40_3) hr2) ?_
  change Code.wp _ _ _ _ _
  obtain ⟨w3, hw3⟩ : ∃ w, w = w2.drew := ⟨_, rfl⟩
  have G3 : w2.grownBy w3 none := hw3 ▸ grown_drew _
  have B1_3 := B1_2.gn G3
  have B2_3 := B2_2.gn G3
  have B3_3 := B3_2.gn G3
  have Bb5_3 := Bb5_2.gn G3
  have Kp3 := Kp2.new G3
  have R_3 := R_2.gn G3
  have ks_3 := ks_2.gn G3
  have ms_3 := ms_2.gn G3
  refine rg_tree (S := fun _ => True) [0] 7 hw3 ⟨rfl, by decide⟩ hmix (by kernel_rfl) (by kernel_rfl) (trivial) ?_
  have h3_4 := u4.w (u3.w (u2.w (u1.w h3_0)))
  refine mh_p (fun w hw => ex_fb 2 h3_4) F4.l fun a5 u5 h41_5 => ?_
  have F5 := F4.pt u5
  refine tree2 (j := 1) (k := 2) (by kernel_rfl) ?_ ?_
  · refine tk_p rfl (ex_le (v := iv) h41_5 (B3_3.cell 2)) (trivial) F5.l fun a6 u6 h42_6 => ?_
    have F6 := F5.pt u6
    refine tree1 (j := 2) (by kernel_rfl) ?_
    refine tk_p rfl (ex_lda (u6.w (u5.w h5_4)) (ld_agg (n := 9) (xs := #[(.string s.title), (.string s.uri), (.int .i64 s.e), (.int .i64 s.li), (.int .i64 s.off), (pto kp2), (pto mp2), (.bool s.disc), (.string s.date)]) (fun _ => by kernel_rfl) (fun _ => by kernel_rfl) Bb5_3 rfl (fun _ _ => by rw [Nat.zero_add] <;> rfl))) (trivial) F6.l fun a7 u7 (h43_7 : a7.tmps.getD 43 undef = (.agg #[(.string s.title), (.string s.uri), (.int .i64 s.e), (.int .i64 s.li), (.int .i64 s.off), (pto kp2), (pto mp2), (.bool s.disc), (.string s.date)])) => ?_
    have F7 := F6.pt u7
    refine tree1 (j := 3) (by kernel_rfl) ?_
    refine tk_cl (args := #[(.agg #[(.string s.title), (.string s.uri), (.int .i64 s.e), (.int .i64 s.li), (.int .i64 s.off), (pto kp2), (pto mp2), (.bool s.disc), (.string s.date)])]) (R := fun v w' => ∃ kv mv, v = .agg (segD 0 s kv mv) ∧ KeySl w' kv s.key ∧ MapSl w' mv s.map ∧ w3.grownBy w' none) rfl (ex_cl (fun _ _ => by kernel_rfl) (arg1 h43_7)) ((toSegment_any (s := s) hes (hk2.gn Kp3.grown) (hm2.gn Kp3.grown)).mono fun _ _ ⟨kv, mv, h⟩ => ⟨_, h.1, kv, mv, rfl, h.2⟩) F7.l ?_
    rintro v w4 ⟨kv2, mv2, rfl, ks2_4, ms2_4, G4⟩
    have B1_4 := B1_3.gn G4
    have B2_4 := B2_3.gn G4
    have B3_4 := B3_3.gn G4
    have Bb5_4 := Bb5_3.gn G4
    have Kp4 := Kp3.new G4
    have R_4 := R_3.gn G4
    have ks_4 := ks_3.gn G4
    have ms_4 := ms_3.gn G4
    refine ⟨trivial, ?_⟩
    intro a8 u8 h44_8
    have F8 := F7.pt u8
    refine tree1 (j := 4) (by kernel_rfl) ?_
    obtain ⟨gs45_8, hgs45_8⟩ : ∃ g, w4.heap.size = g := ⟨_, rfl⟩
    have ne_1_s45_8 : g1 ≠ gs45_8 := by have := B1_4.lt; omega
    have ne_2_s45_8 : g2 ≠ gs45_8 := by have := B2_4.lt; omega
    have ne_3_s45_8 : g3 ≠ gs45_8 := by have := B3_4.lt; omega
    have ne_b5_s45_8 : gb5 ≠ gs45_8 := by have := Bb5_4.lt; omega
    have ge_s45_8 : w00.heap.size ≤ gs45_8 := by have := Kp4.size; omega
    obtain ⟨w5, hr5, Bs45_8_5, G5, hs5⟩ := bs_run (op := Instr.buildSlice 34 1 #[(0, (.agg #[(.int .u64 0), (.string s.title), (.string s.uri), (.float .f64 (fb s.e)), (.int .i64 s.li), (.int .i64 s.off), kv2, mv2, (.slice none 0 0), (.bool s.disc), (.string s.date)]))]) (n := 1) (T := 30) (cs := #[(.int .u64 0), (.string s.title), (.string s.uri), (.float .f64 (fb s.e)), (.int .i64 s.li), (.int .i64 s.off), kv2, mv2, (.slice none 0 0), (.bool s.disc), (.string s.date)]) hgs45_8 (fun _ => by kernel_rfl)
    have B1_5 := B1_4.gn G5
    have B2_5 := B2_4.gn G5
    have B3_5 := B3_4.gn G5
    have Bb5_5 := Bb5_4.gn G5
    have Kp5 := Kp4.new G5
    have R_5 := R_4.gn G5
    have ks_5 := ks_4.gn G5
    have ms_5 := ms_4.gn G5
    have ks2_5 := ks2_4.gn G5
    have ms2_5 := ms2_4.gn G5
    refine tk_p rfl (ex_bs (vs := #[(0, (.agg #[(.int .u64 0), (.string s.title), (.string s.uri), (.float .f64 (fb s.e)), (.int .i64 s.li), (.int .i64 s.off), kv2, mv2, (.slice none 0 0), (.bool s.disc), (.string s.date)]))]) (by have e0 : a8.eval (.tmp 44) = (.agg #[(.int .u64 0), (.string s.title), (.string s.uri), (.float .f64 (fb s.e)), (.int .i64 s.li), (.int .i64 s.off), kv2, mv2, (.slice none 0 0), (.bool s.disc), (.string s.date)]) := h44_8; simp only [List.map_toArray, List.map_cons, List.map_nil, e0]) hr5) (trivial) F8.l fun a9 u9 (h45_9 : a9.tmps.getD 45 undef = (.slice (some ⟨gs45_8, 0, none⟩) 1 1)) => ?_
    have F9 := F8.pt u9
    clear ks2_4 ms2_4
    refine tree1 (j := 5) (by kernel_rfl) ?_
    obtain ⟨v6, w6, hr6, R_6, G6, xs6, own6⟩ := R_5.push (s := s) (kv := kv2) (mv := mv2) (ty := 34) (c := 1) Bs45_8_5 ks2_5 ms2_5 Kp5.size (by rw [List.length_take]; omega)
    have B1_6 := B1_5.row own6 (by decide) G6
    have B2_6 := B2_5.row own6 (by decide) G6
    have B3_6 := B3_5.row own6 (by decide) G6
    have Bb5_6 := Bb5_5.row own6 (by decide) G6
    have Kp6 := Kp5.row own6 (Nat.le_refl _) G6
    have ks_6 := ks_5.row own6 (by decide) G6
    have ms_6 := ms_5.row own6 (by decide) G6
    have h42_9 := u9.w (u8.w (u7.w h42_6))
    refine tk_p rfl (ex_app h42_9 h45_9 hr6) (trivial) F9.l fun a10 u10 (h46_10 : a10.tmps.getD 46 undef = v6) => ?_
    have F10 := F9.pt u10
    clear own6
    clear ks2_5 ms2_5
    refine tree1 (j := 6) (by kernel_rfl) ?_
    have h3_10 := u10.w (u9.w (u8.w (u7.w (u6.w (u5.w h3_4)))))
    refine tk_p rfl (ex_fb 2 h3_10) (trivial) F10.l fun a11 u11 h47_11 => ?_
    have F11 := F10.pt u11
    refine tree1 (j := 7) (by kernel_rfl) ?_
    obtain ⟨w7, hr7, B3_7, G7⟩ := st_run (T := 34) (o := 2) (v := v6) (cs' := #[(.float .f64 (fn m.td)), (.int .u64 m.seq), v6, (.string ⟨#[]⟩), (.bool m.ifr), (.bool m.clo), (.int .i64 m.ty), (.int .u64 m.dsq), (.float .f64 (fb m.st)), (.bool m.pre), (.int .i64 m.ver), kv, mv, (.int .i64 0)]) (fun _ => by kernel_rfl) B3_6 R_6.one (Nat.le_of_ble_eq_true rfl) rfl
    have B1_7 := B1_6.gk G7 hn13
    have B2_7 := B2_6.gk G7 hn23
    have Bb5_7 := Bb5_6.gk G7 (Ne.symm ne_3_b5)
    have Kp7 := Kp6.set G7 (Or.inr hg3)
    have R_7 := R_6.gk B3_6 (by decide) (by decide) (by decide) G7
    have ks_7 := ks_6.gk2 B3_6 (by decide) G7
    have ms_7 := ms_6.gk2 B3_6 (by decide) G7
    refine tk_n rfl (ex_st h47_11 (u11.w h46_10) hr7) (trivial) ?_
    refine tree0 (by kernel_rfl) ?_
    change Code.wp _ _ _ _ _
    refine rg_list ?_
    have h37_11 := u11.w (u10.w (u9.w (u8.w (u7.w (u6.w (u5.w (u4.w (u3.w (u2.w (u1.w h37_0))))))))))
    refine wl_p (ex_bin (vy := (.int .i64 1)) (v := (.int .i64 (j + 1 : Nat))) h37_11 rfl (bo_addi3 j 1 _ (by omega))) F11.l fun a12 u12 h48_12 => ?_
    have F12 := F11.pt u12
    refine wl_p (ex_mv h48_12) F12.l fun a13 u13 h37_13 => ?_
    have F13 := F12.pt u13
    have h1_13 := u13.w (u12.w (u11.w (u10.w (u9.w (u8.w (u7.w (u6.w (u5.w (u4.w (u3.w (u2.w (u1.w h1_0))))))))))))
    have h2_13 := u13.w (u12.w (u11.w (u10.w (u9.w (u8.w (u7.w (u6.w (u5.w (u4.w (u3.w (u2.w (u1.w h2_0))))))))))))
    have h3_13 := u13.w (u12.w (u11.w h3_10))
    have h35_13 := u13.w (u12.w (u11.w (u10.w (u9.w (u8.w (u7.w (u6.w (u5.w (u4.w (u3.w (u2.w (u1.w h35_0))))))))))))
    have h36_13 := u13.w (u12.w (u11.w (u10.w (u9.w (u8.w (u7.w (u6.w (u5.w (u4.w (u3.w (u2.w (u1.w h36_0))))))))))))
    refine hK _ _ ⟨⟨F13, h1_13, h2_13, h3_13, B1_7, B2_7, ⟨_, kv, mv, B3_7, ?_, ks_7, ms_7⟩, Kp7, hg1, hg2, hg3, hn12, hn13, hn23⟩, h35_13, h36_13, h37_13⟩
    rw [List.take_succ_eq_append_getElem hj, hs]; exact R_7
  · refine tk_p rfl (ex_lda (u5.w h5_4) (ld_agg (n := 9) (xs := #[(.string s.title), (.string s.uri), (.int .i64 s.e), (.int .i64 s.li), (.int .i64 s.off), (pto kp2), (pto mp2), (.bool s.disc), (.string s.date)]) (fun _ => by kernel_rfl) (fun _ => by kernel_rfl) Bb5_3 rfl (fun _ _ => by rw [Nat.zero_add] <;> rfl))) (trivial) F5.l fun a6 u6 (h43_6 : a6.tmps.getD 43 undef = (.agg #[(.string s.title), (.string s.uri), (.int .i64 s.e), (.int .i64 s.li), (.int .i64 s.off), (pto kp2), (pto mp2), (.bool s.disc), (.string s.date)])) => ?_
    have F6 := F5.pt u6
    refine tree2 (j := 1) (k := 3) (by kernel_rfl) ?_ ?_
    · refine tk_p rfl (ex_le (v := iv) (u6.w h41_5) (B3_3.cell 2)) (trivial) F6.l fun a7 u7 h42_7 => ?_
      have F7 := F6.pt u7
      refine tree1 (j := 3) (by kernel_rfl) ?_
      refine tk_cl (args := #[(.agg #[(.string s.title), (.string s.uri), (.int .i64 s.e), (.int .i64 s.li), (.int .i64 s.off), (pto kp2), (pto mp2), (.bool s.disc), (.string s.date)])]) (R := fun v w' => ∃ kv mv, v = .agg (segD 0 s kv mv) ∧ KeySl w' kv s.key ∧ MapSl w' mv s.map ∧ w3.grownBy w' none) rfl (ex_cl (fun _ _ => by kernel_rfl) (arg1 (u7.w h43_6))) ((toSegment_any (s := s) hes (hk2.gn Kp3.grown) (hm2.gn Kp3.grown)).mono fun _ _ ⟨kv, mv, h⟩ => ⟨_, h.1, kv, mv, rfl, h.2⟩) F7.l ?_
      rintro v w4 ⟨kv2, mv2, rfl, ks2_4, ms2_4, G4⟩
      have B1_4 := B1_3.gn G4
      have B2_4 := B2_3.gn G4
      have B3_4 := B3_3.gn G4
      have Bb5_4 := Bb5_3.gn G4
      have Kp4 := Kp3.new G4
      have R_4 := R_3.gn G4
      have ks_4 := ks_3.gn G4
      have ms_4 := ms_3.gn G4
      refine ⟨trivial, ?_⟩
      intro a8 u8 h44_8
      have F8 := F7.pt u8
      refine tree1 (j := 4) (by kernel_rfl) ?_
      obtain ⟨gs45_8, hgs45_8⟩ : ∃ g, w4.heap.size = g := ⟨_, rfl⟩
      have ne_1_s45_8 : g1 ≠ gs45_8 := by have := B1_4.lt; omega
      have ne_2_s45_8 : g2 ≠ gs45_8 := by have := B2_4.lt; omega
      have ne_3_s45_8 : g3 ≠ gs45_8 := by have := B3_4.lt; omega
      have ne_b5_s45_8 : gb5 ≠ gs45_8 := by have := Bb5_4.lt; omega
      have ge_s45_8 : w00.heap.size ≤ gs45_8 := by have := Kp4.size; omega
      obtain ⟨w5, hr5, Bs45_8_5, G5, hs5⟩ := bs_run (op := Instr.buildSlice 34 1 #[(0, (.agg #[(.int .u64 0), (.string s.title), (.string s.uri), (.float .f64 (fb s.e)), (.int .i64 s.li), (.int .i64 s.off), kv2, mv2, (.slice none 0 0), (.bool s.disc), (.string s.date)]))]) (n := 1) (T := 30) (cs := #[(.int .u64 0), (.string s.title), (.string s.uri), (.float .f64 (fb s.e)), (.int .i64 s.li), (.int .i64 s.off), kv2, mv2, (.slice none 0 0), (.bool s.disc), (.string s.date)]) hgs45_8 (fun _ => by kernel_rfl)
      have B1_5 := B1_4.gn G5
      have B2_5 := B2_4.gn G5
      have B3_5 := B3_4.gn G5
      have Bb5_5 := Bb5_4.gn G5
      have Kp5 := Kp4.new G5
      have R_5 := R_4.gn G5
      have ks_5 := ks_4.gn G5
      have ms_5 := ms_4.gn G5
      have ks2_5 := ks2_4.gn G5
      have ms2_5 := ms2_4.gn G5
      refine tk_p rfl (ex_bs (vs := #[(0, (.agg #[(.int .u64 0), (.string s.title), (.string s.uri), (.float .f64 (fb s.e)), (.int .i64 s.li), (.int .i64 s.off), kv2, mv2, (.slice none 0 0), (.bool s.disc), (.string s.date)]))]) (by have e0 : a8.eval (.tmp 44) = (.agg #[(.int .u64 0), (.string s.title), (.string s.uri), (.float .f64 (fb s.e)), (.int .i64 s.li), (.int .i64 s.off), kv2, mv2, (.slice none 0 0), (.bool s.disc), (.string s.date)]) := h44_8; simp only [List.map_toArray, List.map_cons, List.map_nil, e0]) hr5) (trivial) F8.l fun a9 u9 (h45_9 : a9.tmps.getD 45 undef = (.slice (some ⟨gs45_8, 0, none⟩) 1 1)) => ?_
      have F9 := F8.pt u9
      clear ks2_4 ms2_4
      refine tree1 (j := 5) (by kernel_rfl) ?_
      obtain ⟨v6, w6, hr6, R_6, G6, xs6, own6⟩ := R_5.push (s := s) (kv := kv2) (mv := mv2) (ty := 34) (c := 1) Bs45_8_5 ks2_5 ms2_5 Kp5.size (by rw [List.length_take]; omega)
      have B1_6 := B1_5.row own6 (by decide) G6
      have B2_6 := B2_5.row own6 (by decide) G6
      have B3_6 := B3_5.row own6 (by decide) G6
      have Bb5_6 := Bb5_5.row own6 (by decide) G6
      have Kp6 := Kp5.row own6 (Nat.le_refl _) G6
      have ks_6 := ks_5.row own6 (by decide) G6
      have ms_6 := ms_5.row own6 (by decide) G6
      refine tk_p rfl (ex_app (u9.w (u8.w h42_7)) h45_9 hr6) (trivial) F9.l fun a10 u10 (h46_10 : a10.tmps.getD 46 undef = v6) => ?_
      have F10 := F9.pt u10
      clear own6
      clear ks2_5 ms2_5
      refine tree1 (j := 6) (by kernel_rfl) ?_
      have h3_10 := u10.w (u9.w (u8.w (u7.w (u6.w (u5.w h3_4)))))
      refine tk_p rfl (ex_fb 2 h3_10) (trivial) F10.l fun a11 u11 h47_11 => ?_
      have F11 := F10.pt u11
      refine tree1 (j := 7) (by kernel_rfl) ?_
      obtain ⟨w7, hr7, B3_7, G7⟩ := st_run (T := 34) (o := 2) (v := v6) (cs' := #[(.float .f64 (fn m.td)), (.int .u64 m.seq), v6, (.string ⟨#[]⟩), (.bool m.ifr), (.bool m.clo), (.int .i64 m.ty), (.int .u64 m.dsq), (.float .f64 (fb m.st)), (.bool m.pre), (.int .i64 m.ver), kv, mv, (.int .i64 0)]) (fun _ => by kernel_rfl) B3_6 R_6.one (Nat.le_of_ble_eq_true rfl) rfl
      have B1_7 := B1_6.gk G7 hn13
      have B2_7 := B2_6.gk G7 hn23
      have Bb5_7 := Bb5_6.gk G7 (Ne.symm ne_3_b5)
      have Kp7 := Kp6.set G7 (Or.inr hg3)
      have R_7 := R_6.gk B3_6 (by decide) (by decide) (by decide) G7
      have ks_7 := ks_6.gk2 B3_6 (by decide) G7
      have ms_7 := ms_6.gk2 B3_6 (by decide) G7
      refine tk_n rfl (ex_st h47_11 (u11.w h46_10) hr7) (trivial) ?_
      refine tree0 (by kernel_rfl) ?_
      change Code.wp _ _ _ _ _
      refine rg_list ?_
      have h37_11 := u11.w (u10.w (u9.w (u8.w (u7.w (u6.w (u5.w (u4.w (u3.w (u2.w (u1.w h37_0))))))))))
      refine wl_p (ex_bin (vy := (.int .i64 1)) (v := (.int .i64 (j + 1 : Nat))) h37_11 rfl (bo_addi3 j 1 _ (by omega))) F11.l fun a12 u12 h48_12 => ?_
      have F12 := F11.pt u12
      refine wl_p (ex_mv h48_12) F12.l fun a13 u13 h37_13 => ?_
      have F13 := F12.pt u13
      have h1_13 := u13.w (u12.w (u11.w (u10.w (u9.w (u8.w (u7.w (u6.w (u5.w (u4.w (u3.w (u2.w (u1.w h1_0))))))))))))
      have h2_13 := u13.w (u12.w (u11.w (u10.w (u9.w (u8.w (u7.w (u6.w (u5.w (u4.w (u3.w (u2.w (u1.w h2_0))))))))))))
      have h3_13 := u13.w (u12.w (u11.w h3_10))
      have h35_13 := u13.w (u12.w (u11.w (u10.w (u9.w (u8.w (u7.w (u6.w (u5.w (u4.w (u3.w (u2.w (u1.w h35_0))))))))))))
      have h36_13 := u13.w (u12.w (u11.w (u10.w (u9.w (u8.w (u7.w (u6.w (u5.w (u4.w (u3.w (u2.w (u1.w h36_0))))))))))))
      refine hK _ _ ⟨⟨F13, h1_13, h2_13, h3_13, B1_7, B2_7, ⟨_, kv, mv, B3_7, ?_, ks_7, ms_7⟩, Kp7, hg1, hg2, hg3, hn12, hn13, hn23⟩, h35_13, h36_13, h37_13⟩
      rw [List.take_succ_eq_append_getElem hj, hs]; exact R_7
    · refine tk_cl (args := #[(.agg #[(.string s.title), (.string s.uri), (.int .i64 s.e), (.int .i64 s.li), (.int .i64 s.off), (pto kp2), (pto mp2), (.bool s.disc), (.string s.date)])]) (R := fun v w' => ∃ kv mv, v = .agg (segD 0 s kv mv) ∧ KeySl w' kv s.key ∧ MapSl w' mv s.map ∧ w3.grownBy w' none) rfl (ex_cl (fun _ _ => by kernel_rfl) (arg1 h43_6)) ((toSegment_any (s := s) hes (hk2.gn Kp3.grown) (hm2.gn Kp3.grown)).mono fun _ _ ⟨kv, mv, h⟩ => ⟨_, h.1, kv, mv, rfl, h.2⟩) F6.l ?_
      rintro v w4 ⟨kv2, mv2, rfl, ks2_4, ms2_4, G4⟩
      have B1_4 := B1_3.gn G4
      have B2_4 := B2_3.gn G4
      have B3_4 := B3_3.gn G4
      have Bb5_4 := Bb5_3.gn G4
      have Kp4 := Kp3.new G4
      have R_4 := R_3.gn G4
      have ks_4 := ks_3.gn G4
      have ms_4 := ms_3.gn G4
      refine ⟨trivial, ?_⟩
      intro a7 u7 h44_7
      have F7 := F6.pt u7
      refine tree2 (j := 1) (k := 4) (by kernel_rfl) ?_ ?_
      · refine tk_p rfl (ex_le (v := iv) (u7.w (u6.w h41_5)) (B3_4.cell 2)) (trivial) F7.l fun a8 u8 h42_8 => ?_
        have F8 := F7.pt u8
        refine tree1 (j := 4) (by kernel_rfl) ?_
        obtain ⟨gs45_8, hgs45_8⟩ : ∃ g, w4.heap.size = g := ⟨_, rfl⟩
        have ne_1_s45_8 : g1 ≠ gs45_8 := by have := B1_4.lt; omega
        have ne_2_s45_8 : g2 ≠ gs45_8 := by have := B2_4.lt; omega
        have ne_3_s45_8 : g3 ≠ gs45_8 := by have := B3_4.lt; omega
        have ne_b5_s45_8 : gb5 ≠ gs45_8 := by have := Bb5_4.lt; omega
        have ge_s45_8 : w00.heap.size ≤ gs45_8 := by have := Kp4.size; omega
        obtain ⟨w5, hr5, Bs45_8_5, G5, hs5⟩ := bs_run (op := Instr.buildSlice 34 1 #[(0, (.agg #[(.int .u64 0), (.string s.title), (.string s.uri), (.float .f64 (fb s.e)), (.int .i64 s.li), (.int .i64 s.off), kv2, mv2, (.slice none 0 0), (.bool s.disc), (.string s.date)]))]) (n := 1) (T := 30) (cs := #[(.int .u64 0), (.string s.title), (.string s.uri), (.float .f64 (fb s.e)), (.int .i64 s.li), (.int .i64 s.off), kv2, mv2, (.slice none 0 0), (.bool s.disc), (.string s.date)]) hgs45_8 (fun _ => by kernel_rfl)
        have B1_5 := B1_4.gn G5
        have B2_5 := B2_4.gn G5
        have B3_5 := B3_4.gn G5
        have Bb5_5 := Bb5_4.gn G5
        have Kp5 := Kp4.new G5
        have R_5 := R_4.gn G5
        have ks_5 := ks_4.gn G5
        have ms_5 := ms_4.gn G5
        have ks2_5 := ks2_4.gn G5
        have ms2_5 := ms2_4.gn G5
        refine tk_p rfl (ex_bs (vs := #[(0, (.agg #[(.int .u64 0), (.string s.title), (.string s.uri), (.float .f64 (fb s.e)), (.int .i64 s.li), (.int .i64 s.off), kv2, mv2, (.slice none 0 0), (.bool s.disc), (.string s.date)]))]) (by have e0 : a8.eval (.tmp 44) = (.agg #[(.int .u64 0), (.string s.title), (.string s.uri), (.float .f64 (fb s.e)), (.int .i64 s.li), (.int .i64 s.off), kv2, mv2, (.slice none 0 0), (.bool s.disc), (.string s.date)]) := (u8.w h44_7); simp only [List.map_toArray, List.map_cons, List.map_nil, e0]) hr5) (trivial) F8.l fun a9 u9 (h45_9 : a9.tmps.getD 45 undef = (.slice (some ⟨gs45_8, 0, none⟩) 1 1)) => ?_
        have F9 := F8.pt u9
        clear ks2_4 ms2_4
        refine tree1 (j := 5) (by kernel_rfl) ?_
        obtain ⟨v6, w6, hr6, R_6, G6, xs6, own6⟩ := R_5.push (s := s) (kv := kv2) (mv := mv2) (ty := 34) (c := 1) Bs45_8_5 ks2_5 ms2_5 Kp5.size (by rw [List.length_take]; omega)
        have B1_6 := B1_5.row own6 (by decide) G6
        have B2_6 := B2_5.row own6 (by decide) G6
        have B3_6 := B3_5.row own6 (by decide) G6
        have Bb5_6 := Bb5_5.row own6 (by decide) G6
        have Kp6 := Kp5.row own6 (Nat.le_refl _) G6
        have ks_6 := ks_5.row own6 (by decide) G6
        have ms_6 := ms_5.row own6 (by decide) G6
        refine tk_p rfl (ex_app (u9.w h42_8) h45_9 hr6) (trivial) F9.l fun a10 u10 (h46_10 : a10.tmps.getD 46 undef = v6) => ?_
        have F10 := F9.pt u10
        clear own6
        clear ks2_5 ms2_5
        refine tree1 (j := 6) (by kernel_rfl) ?_
        have h3_10 := u10.w (u9.w (u8.w (u7.w (u6.w (u5.w h3_4)))))
        refine tk_p rfl (ex_fb 2 h3_10) (trivial) F10.l fun a11 u11 h47_11 => ?_
        have F11 := F10.pt u11
        refine tree1 (j := 7) (by kernel_rfl) ?_
        obtain ⟨w7, hr7, B3_7, G7⟩ := st_run (T := 34) (o := 2) (v := v6) (cs' := #[(.float .f64 (fn m.td)), (.int .u64 m.seq), v6, (.string ⟨#[]⟩), (.bool m.ifr), (.bool m.clo), (.int .i64 m.ty), (.int .u64 m.dsq), (.float .f64 (fb m.st)), (.bool m.pre), (.int .i64 m.ver), kv, mv, (.int .i64 0)]) (fun _ => by kernel_rfl) B3_6 R_6.one (Nat.le_of_ble_eq_true rfl) rfl
        have B1_7 := B1_6.gk G7 hn13
        have B2_7 := B2_6.gk G7 hn23
        have Bb5_7 := Bb5_6.gk G7 (Ne.symm ne_3_b5)
        have Kp7 := Kp6.set G7 (Or.inr hg3)
        have R_7 := R_6.gk B3_6 (by decide) (by decide) (by decide) G7
        have ks_7 := ks_6.gk2 B3_6 (by decide) G7
        have ms_7 := ms_6.gk2 B3_6 (by decide) G7
        refine tk_n rfl (ex_st h47_11 (u11.w h46_10) hr7) (trivial) ?_
        refine tree0 (by kernel_rfl) ?_
        change Code.wp _ _ _ _ _
        refine rg_list ?_
        have h37_11 := u11.w (u10.w (u9.w (u8.w (u7.w (u6.w (u5.w (u4.w (u3.w (u2.w (u1.w h37_0))))))))))
        refine wl_p (ex_bin (vy := (.int .i64 1)) (v := (.int .i64 (j + 1 : Nat))) h37_11 rfl (bo_addi3 j 1 _ (by omega))) F11.l fun a12 u12 h48_12 => ?_
        have F12 := F11.pt u12
        refine wl_p (ex_mv h48_12) F12.l fun a13 u13 h37_13 => ?_
        have F13 := F12.pt u13
        have h1_13 := u13.w (u12.w (u11.w (u10.w (u9.w (u8.w (u7.w (u6.w (u5.w (u4.w (u3.w (u2.w (u1.w h1_0))))))))))))
        have h2_13 := u13.w (u12.w (u11.w (u10.w (u9.w (u8.w (u7.w (u6.w (u5.w (u4.w (u3.w (u2.w (u1.w h2_0))))))))))))
        have h3_13 := u13.w (u12.w (u11.w h3_10))
        have h35_13 := u13.w (u12.w (u11.w (u10.w (u9.w (u8.w (u7.w (u6.w (u5.w (u4.w (u3.w (u2.w (u1.w h35_0))))))))))))
        have h36_13 := u13.w (u12.w (u11.w (u10.w (u9.w (u8.w (u7.w (u6.w (u5.w (u4.w (u3.w (u2.w (u1.w h36_0))))))))))))
        refine hK _ _ ⟨⟨F13, h1_13, h2_13, h3_13, B1_7, B2_7, ⟨_, kv, mv, B3_7, ?_, ks_7, ms_7⟩, Kp7, hg1, hg2, hg3, hn12, hn13, hn23⟩, h35_13, h36_13, h37_13⟩
        rw [List.take_succ_eq_append_getElem hj, hs]; exact R_7
      · obtain ⟨gs45_7, hgs45_7⟩ : ∃ g, w4.heap.size = g := ⟨_, rfl⟩
        have ne_1_s45_7 : g1 ≠ gs45_7 := by have := B1_4.lt; omega
        have ne_2_s45_7 : g2 ≠ gs45_7 := by have := B2_4.lt; omega
        have ne_3_s45_7 : g3 ≠ gs45_7 := by have := B3_4.lt; omega
        have ne_b5_s45_7 : gb5 ≠ gs45_7 := by have := Bb5_4.lt; omega
        have ge_s45_7 : w00.heap.size ≤ gs45_7 := by have := Kp4.size; omega
        obtain ⟨w5, hr5, Bs45_7_5, G5, hs5⟩ := bs_run (op := Instr.buildSlice 34 1 #[(0, (.agg #[(.int .u64 0), (.string s.title), (.string s.uri), (.float .f64 (fb s.e)), (.int .i64 s.li), (.int .i64 s.off), kv2, mv2, (.slice none 0 0), (.bool s.disc), (.string s.date)]))]) (n := 1) (T := 30) (cs := #[(.int .u64 0), (.string s.title), (.string s.uri), (.float .f64 (fb s.e)), (.int .i64 s.li), (.int .i64 s.off), kv2, mv2, (.slice none 0 0), (.bool s.disc), (.string s.date)]) hgs45_7 (fun _ => by kernel_rfl)
        have B1_5 := B1_4.gn G5
        have B2_5 := B2_4.gn G5
        have B3_5 := B3_4.gn G5
        have Bb5_5 := Bb5_4.gn G5
        have Kp5 := Kp4.new G5
        have R_5 := R_4.gn G5
        have ks_5 := ks_4.gn G5
        have ms_5 := ms_4.gn G5
        have ks2_5 := ks2_4.gn G5
        have ms2_5 := ms2_4.gn G5
        refine tk_p rfl (ex_bs (vs := #[(0, (.agg #[(.int .u64 0), (.string s.title), (.string s.uri), (.float .f64 (fb s.e)), (.int .i64 s.li), (.int .i64 s.off), kv2, mv2, (.slice none 0 0), (.bool s.disc), (.string s.date)]))]) (by have e0 : a7.eval (.tmp 44) = (.agg #[(.int .u64 0), (.string s.title), (.string s.uri), (.float .f64 (fb s.e)), (.int .i64 s.li), (.int .i64 s.off), kv2, mv2, (.slice none 0 0), (.bool s.disc), (.string s.date)]) := h44_7; simp only [List.map_toArray, List.map_cons, List.map_nil, e0]) hr5) (trivial) F7.l fun a8 u8 (h45_8 : a8.tmps.getD 45 undef = (.slice (some ⟨gs45_7, 0, none⟩) 1 1)) => ?_
        have F8 := F7.pt u8
        clear ks2_4 ms2_4
        refine tree1 (j := 1) (by kernel_rfl) ?_
        have h41_8 := u8.w (u7.w (u6.w h41_5))
        refine tk_p rfl (ex_le (v := iv) h41_8 (B3_5.cell 2)) (trivial) F8.l fun a9 u9 h42_9 => ?_
        have F9 := F8.pt u9
        refine tree1 (j := 5) (by kernel_rfl) ?_
        obtain ⟨v6, w6, hr6, R_6, G6, xs6, own6⟩ := R_5.push (s := s) (kv := kv2) (mv := mv2) (ty := 34) (c := 1) Bs45_7_5 ks2_5 ms2_5 Kp5.size (by rw [List.length_take]; omega)
        have B1_6 := B1_5.row own6 (by decide) G6
        have B2_6 := B2_5.row own6 (by decide) G6
        have B3_6 := B3_5.row own6 (by decide) G6
        have Bb5_6 := Bb5_5.row own6 (by decide) G6
        have Kp6 := Kp5.row own6 (Nat.le_refl _) G6
        have ks_6 := ks_5.row own6 (by decide) G6
        have ms_6 := ms_5.row own6 (by decide) G6
        refine tk_p rfl (ex_app h42_9 (u9.w h45_8) hr6) (trivial) F9.l fun a10 u10 (h46_10 : a10.tmps.getD 46 undef = v6) => ?_
        have F10 := F9.pt u10
        clear own6
        clear ks2_5 ms2_5
        refine tree1 (j := 6) (by kernel_rfl) ?_
        have h3_10 := u10.w (u9.w (u8.w (u7.w (u6.w (u5.w h3_4)))))
        refine tk_p rfl (ex_fb 2 h3_10) (trivial) F10.l fun a11 u11 h47_11 => ?_
        have F11 := F10.pt u11
        refine tree1 (j := 7) (by kernel_rfl) ?_
        obtain ⟨w7, hr7, B3_7, G7⟩ := st_run (T := 34) (o := 2) (v := v6) (cs' := #[(.float .f64 (fn m.td)), (.int .u64 m.seq), v6, (.string ⟨#[]⟩), (.bool m.ifr), (.bool m.clo), (.int .i64 m.ty), (.int .u64 m.dsq), (.float .f64 (fb m.st)), (.bool m.pre), (.int .i64 m.ver), kv, mv, (.int .i64 0)]) (fun _ => by kernel_rfl) B3_6 R_6.one (Nat.le_of_ble_eq_true rfl) rfl
        have B1_7 := B1_6.gk G7 hn13
        have B2_7 := B2_6.gk G7 hn23
        have Bb5_7 := Bb5_6.gk G7 (Ne.symm ne_3_b5)
        have Kp7 := Kp6.set G7 (Or.inr hg3)
        have R_7 := R_6.gk B3_6 (by decide) (by decide) (by decide) G7
        have ks_7 := ks_6.gk2 B3_6 (by decide) G7
        have ms_7 := ms_6.gk2 B3_6 (by decide) G7
        refine tk_n rfl (ex_st h47_11 (u11.w h46_10) hr7) (trivial) ?_
        refine tree0 (by kernel_rfl) ?_
        change Code.wp _ _ _ _ _
        refine rg_list ?_
        have h37_11 := u11.w (u10.w (u9.w (u8.w (u7.w (u6.w (u5.w (u4.w (u3.w (u2.w (u1.w h37_0))))))))))
        refine wl_p (ex_bin (vy := (.int .i64 1)) (v := (.int .i64 (j + 1 : Nat))) h37_11 rfl (bo_addi3 j 1 _ (by omega))) F11.l fun a12 u12 h48_12 => ?_
        have F12 := F11.pt u12
        refine wl_p (ex_mv h48_12) F12.l fun a13 u13 h37_13 => ?_
        have F13 := F12.pt u13
        have h1_13 := u13.w (u12.w (u11.w (u10.w (u9.w (u8.w (u7.w (u6.w (u5.w (u4.w (u3.w (u2.w (u1.w h1_0))))))))))))
        have h2_13 := u13.w (u12.w (u11.w (u10.w (u9.w (u8.w (u7.w (u6.w (u5.w (u4.w (u3.w (u2.w (u1.w h2_0))))))))))))
        have h3_13 := u13.w (u12.w (u11.w h3_10))
        have h35_13 := u13.w (u12.w (u11.w (u10.w (u9.w (u8.w (u7.w (u6.w (u5.w (u4.w (u3.w (u2.w (u1.w h35_0))))))))))))
        have h36_13 := u13.w (u12.w (u11.w (u10.w (u9.w (u8.w (u7.w (u6.w (u5.w (u4.w (u3.w (u2.w (u1.w h36_0))))))))))))
        refine hK _ _ ⟨⟨F13, h1_13, h2_13, h3_13, B1_7, B2_7, ⟨_, kv, mv, B3_7, ?_, ks_7, ms_7⟩, Kp7, hg1, hg2, hg3, hn12, hn13, hn23⟩, h35_13, h36_13, h37_13⟩
        rw [List.take_succ_eq_append_getElem hj, hs]; exact R_7
theorem tm_exit {M : Nat} (hJ : JTo w00 sv m kp mp segs key map g1 g2 g3 j a0 w0) (h36_0 : a0.tmps.getD 36 undef = .int .i64 M) (h37_0 : a0.tmps.getD 37 undef = .int .i64 M) (hK : ∀ a', JTo w00 sv m kp mp segs key map g1 g2 g3 j a' w0 → Q .normal a' w0) : (cat [1, 1, 0, 1, 0, 0] tmB).wp Tryz.prog (Exit.then (fun _ _ => False) (Exit.inBlock 0 Q)) a0 w0 := by
  change Code.wp _ (Code.seq _ _) _ _ _
  obtain ⟨F0, h1_0, h2_0, h3_0, B1_0, B2_0, ⟨iv, kv, mv, B3_0, R_0, ks_0, ms_0⟩, Kp0, hg1, hg2, hg3, hn12, hn13, hn23⟩ := hJ
  refine wp_seq ?_
  refine rg_list ?_
  refine wl_p (ex_bin (v := (.bool false)) h37_0 h36_0 (bo_lss_no _ _)) F0.l fun a1 u1 h38_1 => ?_
  have F1 := F0.pt u1
  change Code.wp _ _ _ _ _
  refine wp_seq ?_
  refine wp_cond_false h38_1 ?_
  refine wp_exit ?_
  try simp only [Exit.then]
  refine inBlock_exit ?_
  exact hK _ ⟨F1, (u1.w h1_0), (u1.w h2_0), (u1.w h3_0), B1_0, B2_0, ⟨iv, kv, mv, B3_0, R_0, ks_0, ms_0⟩, Kp0, hg1, hg2, hg3, hn12, hn13, hn23⟩
theorem tm_loop (hR : SRow w00 base sv segs) (hl : segs.length ≤ 12) (he : ∀ s ∈ segs, s.e < 4000) (hJ : JTo w00 sv m kp mp segs key map g1 g2 g3 0 a0 w0) (hK : ∀ a' w', JTo w00 sv m kp mp segs key map g1 g2 g3 segs.length a' w' → Q .normal a' w') : (cat [1, 1, 0] tmB).wp Tryz.prog Q a0 w0 := by
  obtain ⟨F0, h1_0, h2_0, h3_0, B1_0, B2_0, ⟨iv, kv, mv, B3_0, R_0, ks_0, ms_0⟩, Kp0, hg1, hg2, hg3, hn12, hn13, hn23⟩ := hJ
  change Code.wp _ (Code.seq (Code.region _ _ _) (Code.block _ _)) _ _ _
  refine wp_seq ?_
  refine rg_list ?_
  refine wl_p (ex_fb 11 h1_0) F0.l fun a1 u1 h34_1 => ?_
  have F1 := F0.pt u1
  refine wl_p (ex_le (v := sv) h34_1 (B1_0.cell 11)) F1.l fun a2 u2 h35_2 => ?_
  have F2 := F1.pt u2
  refine wl_p (ex_bi (w' := w0) (args := #[sv]) (v := (.int .i64 segs.length)) (arg1 h35_2) (hR.len _)) F2.l fun a3 u3 h36_3 => ?_
  have F3 := F2.pt u3
  refine wl_p (ex_mv (v := (.int .i64 0)) rfl) F3.l fun a4 u4 h37_4 => ?_
  have F4 := F3.pt u4
  change Code.wp _ (Code.block _ (Code.loop _)) _ _ _
  have h1_4 := u4.w (u3.w (u2.w (u1.w h1_0)))
  have h2_4 := u4.w (u3.w (u2.w (u1.w h2_0)))
  have h3_4 := u4.w (u3.w (u2.w (u1.w h3_0)))
  refine loop_n (si := 37) (m := segs.length) (fun j a w => JTo w00 sv m kp mp segs key map g1 g2 g3 j a w ∧ a.tmps.getD 35 undef = sv ∧ a.tmps.getD 36 undef = .int .i64 segs.length ∧ a.tmps.getD 37 undef = .int .i64 j) ⟨⟨F4, h1_4, h2_4, h3_4, B1_0, B2_0, ⟨iv, kv, mv, B3_0, R_0, ks_0, ms_0⟩, Kp0, hg1, hg2, hg3, hn12, hn13, hn23⟩, (u4.w (u3.w h35_2)), (u4.w h36_3), h37_4⟩ (fun _ _ _ h => h.2.2.2) ?_ ?_
  · intro j a w hj ⟨hJ, h35, h36, h37⟩ R hK
    exact tm_round hR hl he hj hJ h35 h36 h37 hK
  · intro a w ⟨hJ, h35, h36, h37⟩
    exact tm_exit hJ h36 h37 fun a' hJ' => hK _ _ hJ'
theorem tm_end (hJ : JTo w00 sv m kp mp segs key map g1 g2 g3 segs.length a0 w0) : (cat [1, 1, 1] tmB).wp Tryz.prog (fun e a w => bodyPost Tryz.prog Tryz.f9 (fun e w' => ∃ iv kv mv, e = .returned (.agg (impC m iv kv mv 0)) ∧ IRow w' w00.heap.size iv segs ∧ KeySl w' kv key ∧ MapSl w' mv map ∧ w00.grownBy w' none) e a w) a0 w0 := by
  change Code.wp _ (Code.seq _ _) _ _ _
  obtain ⟨F0, h1_0, h2_0, h3_0, B1_0, B2_0, ⟨iv, kv, mv, B3_0, R_0, ks_0, ms_0⟩, Kp0, hg1, hg2, hg3, hn12, hn13, hn23⟩ := hJ
  rw [List.take_length] at R_0
  refine wp_seq ?_
  refine rg_list ?_
  refine wl_p (ex_lda h3_0 (ld_agg (n := 14) (xs := #[(.float .f64 (fn m.td)), (.int .u64 m.seq), iv, (.string ⟨#[]⟩), (.bool m.ifr), (.bool m.clo), (.int .i64 m.ty), (.int .u64 m.dsq), (.float .f64 (fb m.st)), (.bool m.pre), (.int .i64 m.ver), kv, mv, (.int .i64 0)]) (fun _ => by kernel_rfl) (fun _ => by kernel_rfl) B3_0 rfl (fun _ _ => by rw [Nat.zero_add] <;> rfl))) F0.l fun a1 u1 (h49_1 : a1.tmps.getD 49 undef = (.agg #[(.float .f64 (fn m.td)), (.int .u64 m.seq), iv, (.string ⟨#[]⟩), (.bool m.ifr), (.bool m.clo), (.int .i64 m.ty), (.int .u64 m.dsq), (.float .f64 (fb m.st)), (.bool m.pre), (.int .i64 m.ver), kv, mv, (.int .i64 0)])) => ?_
  have F1 := F0.pt u1
  obtain ⟨w1, hr1, B2_1, G1⟩ := sta_run (T := 36) (cs := #[(.float .f64 (fn m.td)), (.int .u64 m.seq), iv, (.string ⟨#[]⟩), (.bool m.ifr), (.bool m.clo), (.int .i64 m.ty), (.int .u64 m.dsq), (.float .f64 (fb m.st)), (.bool m.pre), (.int .i64 m.ver), kv, mv, (.int .i64 0)]) (fun _ => by kernel_rfl) B2_0 rfl rfl (by first | exact one_impC R_0.one ks_0 ms_0 | exact one_ssegC _ _ _ | simp [Value.oneCell'])
  have B1_1 := B1_0.gk G1 hn12
  have B3_1 := B3_0.gk G1 (Ne.symm hn23)
  have Kp1 := Kp0.set G1 (Or.inr hg2)
  have R_1 := R_0.gk B2_0 (by decide) (by decide) (by decide) G1
  have ks_1 := ks_0.gk2 B2_0 (by decide) G1
  have ms_1 := ms_0.gk2 B2_0 (by decide) G1
  refine wl_n (ex_st (u1.w h2_0) h49_1 hr1) ?_
  refine wp_ret ?_
  try simp only [Exit.then, Exit.inBlock]
  exact bodyPost_ret (v := .agg #[(.float .f64 (fn m.td)), (.int .u64 m.seq), iv, (.string ⟨#[]⟩), (.bool m.ifr), (.bool m.clo), (.int .i64 m.ty), (.int .u64 m.dsq), (.float .f64 (fb m.st)), (.bool m.pre), (.int .i64 m.ver), kv, mv, (.int .i64 0)]) (results_cell_row rfl _ _ _ _ _ _ _ (u1.w h2_0) B2_1 Tryz.underlying36 rfl (by kernel_rfl)) F1.defers ⟨iv, kv, mv, rfl, R_1, ks_1, ms_1, Kp1.grown⟩
end
theorem toMedia_any {m : MedD} {kp mp : Option Nat} {sv : Value} {segs : List SegD} {key : Option KeyD} {map : Option MapD} {base : Nat} {w0 : World} (ok : m.Ok) (hR : SRow w0 base sv segs) (hl : segs.length ≤ 12) (he : ∀ s ∈ segs, s.e < 4000) (hk : SKey w0 kp key) (hm : SMap w0 mp map) : Calls Tryz.prog 9 #[.agg (medC m kp mp sv)] w0 fun e w' => ∃ iv kv mv, e = .returned (.agg (impC m iv kv mv 0)) ∧ IRow w' w0.heap.size iv segs ∧ KeySl w' kv key ∧ MapSl w' mv map ∧ w0.grownBy w' none := by
  refine calls_of_wp Tryz.func9 rfl ?_
  generalize hA : Act.mk _ _ = a0
  have F0 : Fz 50 a0 := by subst hA; exact ⟨by simp [Tryz.ntmps9], rfl⟩
  have h0_0 : a0.tmps.getD 0 undef = (.agg #[(.int .i64 m.ver), (.int .i64 m.td), (.int .u64 m.seq), (.int .u64 m.dsq), (.int .i64 m.ty), (.int .i64 m.st), (.bool m.pre), (.bool m.ifr), (.bool m.clo), (pto kp), (pto mp), sv]) := by subst hA; exact fr_arg rfl
  clear hA
  have Kp0 := Kp.refl [] w0
  have sk_0 := hk
  have sm_0 := hm
  change Code.wp _ (Code.seq _ _) _ _ _
  refine wp_seq ?_
  refine rg_list ?_
  obtain ⟨g1, hg1⟩ : ∃ g, w0.heap.size = g := ⟨_, rfl⟩
  have ge_1 : w0.heap.size ≤ g1 := by have := Kp0.size; omega
  obtain ⟨w1, hr1, B1_1, G1, hs1⟩ := al_run (op := Instr.box 44 (.agg #[(.int .i64 m.ver), (.int .i64 m.td), (.int .u64 m.seq), (.int .u64 m.dsq), (.int .i64 m.ty), (.int .i64 m.st), (.bool m.pre), (.bool m.ifr), (.bool m.clo), (pto kp), (pto mp), sv])) (T := 44) (cs := #[(.int .i64 m.ver), (.int .i64 m.td), (.int .u64 m.seq), (.int .u64 m.dsq), (.int .i64 m.ty), (.int .i64 m.st), (.bool m.pre), (.bool m.ifr), (.bool m.clo), (pto kp), (pto mp), sv]) hg1 (fun _ => by kernel_rfl)
  have Kp1 := Kp0.new G1
  have sk_1 := sk_0.gn G1
  have sm_1 := sm_0.gn G1
  refine wl_p (ex_bx h0_0 hr1) F0.l fun a1 u1 (h1_1 : a1.tmps.getD 1 undef = (.pointer (some ⟨g1, 0, none⟩))) => ?_
  have F1 := F0.pt u1
  obtain ⟨g2, hg2⟩ : ∃ g, w1.heap.size = g := ⟨_, rfl⟩
  have ne_1_2 : g1 ≠ g2 := by have := B1_1.lt; omega
  have ge_2 : w0.heap.size ≤ g2 := by have := Kp1.size; omega
  obtain ⟨w2, hr2, B2_2, G2, hs2⟩ := al_run (op := Instr.alloc 36 true (.tuple #[])) (T := 36) (cs := #[(.float .f64 0), (.int .u64 0), (.slice none 0 0), (.string ⟨#[]⟩), (.bool false), (.bool false), (.int .i64 0), (.int .u64 0), (.float .f64 0), (.bool false), (.int .i64 0), (.slice none 0 0), (.slice none 0 0), (.int .i64 0)]) hg2 (fun _ => by kernel_rfl)
  have B1_2 := B1_1.gn G2
  have Kp2 := Kp1.new G2
  have sk_2 := sk_1.gn G2
  have sm_2 := sm_1.gn G2
  refine wl_p (ex_al hr2) F1.l fun a2 u2 (h2_2 : a2.tmps.getD 2 undef = (.pointer (some ⟨g2, 0, none⟩))) => ?_
  have F2 := F1.pt u2
  change Code.wp _ (Code.seq _ _) _ _ _
  refine wp_seq ?_
  obtain ⟨w3, hw3⟩ : ∃ w, w = w2.drew := ⟨_, rfl⟩
  have G3 : w2.grownBy w3 none := hw3 ▸ grown_drew _
  have B1_3 := B1_2.gn G3
  have B2_3 := B2_2.gn G3
  have Kp3 := Kp2.new G3
  have sk_3 := sk_2.gn G3
  have sm_3 := sm_2.gn G3
  refine rg_tree (S := fun w' => Blk w' g1 44 #[(.int .i64 m.ver), (.int .i64 m.td), (.int .u64 m.seq), (.int .u64 m.dsq), (.int .i64 m.ty), (.int .i64 m.st), (.bool m.pre), (.bool m.ifr), (.bool m.clo), (pto kp), (pto mp), sv]) [0, 1, 2, 3, 4, 5, 6, 7, 8, 9, 10, 11, 12, 13, 14, 15, 16, 17, 18, 19, 20, 21, 22, 24, 25] 5 hw3 ⟨rfl, by decide⟩ hmix (by kernel_rfl) (by kernel_rfl) (B1_3) ?_
  refine mh_p (fun w hw => ex_fb 1 (u2.w h1_1)) F2.l fun a3 u3 h6_3 => ?_
  have F3 := F2.pt u3
  refine mh_p (fun w hw => ex_le (v := (.int .i64 m.td)) h6_3 (hw.cell 1)) F3.l fun a4 u4 h7_4 => ?_
  have F4 := F3.pt u4
  refine mh_p (fun w hw => ex_conv (vx := (.int .i64 m.td)) (v := (.float .f64 (fn m.td))) h7_4 (cv_f64 m.td (by have := ok.td; have := ok.st; omega) _)) F4.l fun a5 u5 h8_5 => ?_
  have F5 := F4.pt u5
  have h1_5 := u5.w (u4.w (u3.w (u2.w h1_1)))
  refine mh_p (fun w hw => ex_fb 2 h1_5) F5.l fun a6 u6 h9_6 => ?_
  have F6 := F5.pt u6
  refine mh_p (fun w hw => ex_le (v := (.int .u64 m.seq)) h9_6 (hw.cell 2)) F6.l fun a7 u7 h10_7 => ?_
  have F7 := F6.pt u7
  refine mh_p (fun w hw => ex_fb 7 (u7.w (u6.w h1_5))) F7.l fun a8 u8 h11_8 => ?_
  have F8 := F7.pt u8
  refine mh_p (fun w hw => ex_le (v := (.bool m.ifr)) h11_8 (hw.cell 7)) F8.l fun a9 u9 h12_9 => ?_
  have F9 := F8.pt u9
  have h1_9 := u9.w (u8.w (u7.w (u6.w h1_5)))
  refine mh_p (fun w hw => ex_fb 8 h1_9) F9.l fun a10 u10 h13_10 => ?_
  have F10 := F9.pt u10
  refine mh_p (fun w hw => ex_le (v := (.bool m.clo)) h13_10 (hw.cell 8)) F10.l fun a11 u11 h14_11 => ?_
  have F11 := F10.pt u11
  refine mh_p (fun w hw => ex_fb 4 (u11.w (u10.w h1_9))) F11.l fun a12 u12 h15_12 => ?_
  have F12 := F11.pt u12
  refine mh_p (fun w hw => ex_le (v := (.int .i64 m.ty)) h15_12 (hw.cell 4)) F12.l fun a13 u13 h16_13 => ?_
  have F13 := F12.pt u13
  have h1_13 := u13.w (u12.w (u11.w (u10.w h1_9)))
  refine mh_p (fun w hw => ex_fb 3 h1_13) F13.l fun a14 u14 h17_14 => ?_
  have F14 := F13.pt u14
  refine mh_p (fun w hw => ex_le (v := (.int .u64 m.dsq)) h17_14 (hw.cell 3)) F14.l fun a15 u15 h18_15 => ?_
  have F15 := F14.pt u15
  refine mh_p (fun w hw => ex_fb 5 (u15.w (u14.w h1_13))) F15.l fun a16 u16 h19_16 => ?_
  have F16 := F15.pt u16
  refine mh_p (fun w hw => ex_le (v := (.int .i64 m.st)) h19_16 (hw.cell 5)) F16.l fun a17 u17 h20_17 => ?_
  have F17 := F16.pt u17
  refine mh_p (fun w hw => ex_conv (vx := (.int .i64 m.st)) (v := (.float .f64 (fn m.st))) h20_17 (cv_f64 m.st (by have := ok.td; have := ok.st; omega) _)) F17.l fun a18 u18 h21_18 => ?_
  have F18 := F17.pt u18
  refine mh_p (fun w hw => ex_bin (vy := (.float .f64 4620693217682128896)) (v := (.float .f64 (fb m.st))) h21_18 rfl (bo_quo8 m.st (by have := ok.st; omega) _)) F18.l fun a19 u19 h22_19 => ?_
  have F19 := F18.pt u19
  have h1_19 := u19.w (u18.w (u17.w (u16.w (u15.w (u14.w h1_13)))))
  refine mh_p (fun w hw => ex_fb 6 h1_19) F19.l fun a20 u20 h23_20 => ?_
  have F20 := F19.pt u20
  refine mh_p (fun w hw => ex_le (v := (.bool m.pre)) h23_20 (hw.cell 6)) F20.l fun a21 u21 h24_21 => ?_
  have F21 := F20.pt u21
  refine mh_p (fun w hw => ex_fb 0 (u21.w (u20.w h1_19))) F21.l fun a22 u22 h25_22 => ?_
  have F22 := F21.pt u22
  refine mh_p (fun w hw => ex_le (v := (.int .i64 m.ver)) h25_22 (hw.cell 0)) F22.l fun a23 u23 h26_23 => ?_
  have F23 := F22.pt u23
  have h1_23 := u23.w (u22.w (u21.w (u20.w h1_19)))
  refine mh_p (fun w hw => ex_fb 9 h1_23) F23.l fun a24 u24 h27_24 => ?_
  have F24 := F23.pt u24
  refine mh_p (fun w hw => ex_le (v := (pto kp)) h27_24 (hw.cell 9)) F24.l fun a25 u25 h28_25 => ?_
  have F25 := F24.pt u25
  refine mh_p (fun w hw => ex_fb 10 (u25.w (u24.w h1_23))) F25.l fun a26 u26 h30_26 => ?_
  have F26 := F25.pt u26
  refine mh_p (fun w hw => ex_le (v := (pto mp)) h30_26 (hw.cell 10)) F26.l fun a27 u27 h31_27 => ?_
  have F27 := F26.pt u27
  refine tree2 (j := 23) (k := 28) (by kernel_rfl) ?_ ?_
  · refine tk_cl (args := #[(pto kp)]) (R := fun v w' => KeySl w' v key ∧ w3.grownBy w' none) rfl (ex_cl (fun _ _ => by kernel_rfl) (arg1 (u27.w (u26.w h28_25)))) ((toKeys_any sk_3).mono fun _ _ ⟨kv, h⟩ => ⟨_, h.1, h.2⟩) F27.l ?_
    rintro kv w4 ⟨ks_4, G4⟩
    obtain ⟨kva, kvn, kvc, rfl⟩ := KeySl.shape ks_4
    have B1_4 := B1_3.gn G4
    have B2_4 := B2_3.gn G4
    have Kp4 := Kp3.new G4
    have sm_4 := sm_3.gn G4
    refine ⟨B1_4, ?_⟩
    intro a28 u28 h29_28
    have F28 := F27.pt u28
    refine tree2 (j := 26) (k := 28) (by kernel_rfl) ?_ ?_
    · refine tk_cl (args := #[(pto mp)]) (R := fun v w' => MapSl w' v map ∧ w4.grownBy w' none) rfl (ex_cl (fun _ _ => by kernel_rfl) (arg1 (u28.w h31_27))) ((toMaps_any sm_4).mono fun _ _ ⟨kv, h⟩ => ⟨_, h.1, h.2⟩) F28.l ?_
      rintro mv w5 ⟨ms_5, G5⟩
      obtain ⟨mva, mvn, mvc, rfl⟩ := MapSl.shape ms_5
      have B1_5 := B1_4.gn G5
      have B2_5 := B2_4.gn G5
      have Kp5 := Kp4.new G5
      have ks_5 := ks_4.gn G5
      refine ⟨B1_5, ?_⟩
      intro a29 u29 h32_29
      have F29 := F28.pt u29
      refine tree2 (j := 27) (k := 28) (by kernel_rfl) ?_ ?_
      · have h8_29 := u29.w (u28.w (u27.w (u26.w (u25.w (u24.w (u23.w (u22.w (u21.w (u20.w (u19.w (u18.w (u17.w (u16.w (u15.w (u14.w (u13.w (u12.w (u11.w (u10.w (u9.w (u8.w (u7.w (u6.w h8_5)))))))))))))))))))))))
        have h10_29 := u29.w (u28.w (u27.w (u26.w (u25.w (u24.w (u23.w (u22.w (u21.w (u20.w (u19.w (u18.w (u17.w (u16.w (u15.w (u14.w (u13.w (u12.w (u11.w (u10.w (u9.w (u8.w h10_7)))))))))))))))))))))
        have h12_29 := u29.w (u28.w (u27.w (u26.w (u25.w (u24.w (u23.w (u22.w (u21.w (u20.w (u19.w (u18.w (u17.w (u16.w (u15.w (u14.w (u13.w (u12.w (u11.w (u10.w h12_9)))))))))))))))))))
        have h14_29 := u29.w (u28.w (u27.w (u26.w (u25.w (u24.w (u23.w (u22.w (u21.w (u20.w (u19.w (u18.w (u17.w (u16.w (u15.w (u14.w (u13.w (u12.w h14_11)))))))))))))))))
        have h16_29 := u29.w (u28.w (u27.w (u26.w (u25.w (u24.w (u23.w (u22.w (u21.w (u20.w (u19.w (u18.w (u17.w (u16.w (u15.w (u14.w h16_13)))))))))))))))
        have h18_29 := u29.w (u28.w (u27.w (u26.w (u25.w (u24.w (u23.w (u22.w (u21.w (u20.w (u19.w (u18.w (u17.w (u16.w h18_15)))))))))))))
        have h22_29 := u29.w (u28.w (u27.w (u26.w (u25.w (u24.w (u23.w (u22.w (u21.w (u20.w h22_19)))))))))
        have h24_29 := u29.w (u28.w (u27.w (u26.w (u25.w (u24.w (u23.w (u22.w h24_21)))))))
        have h26_29 := u29.w (u28.w (u27.w (u26.w (u25.w (u24.w h26_23)))))
        refine tk_p rfl (ex_bd (w' := w5) (vs :=  #[(0, (.float .f64 (fn m.td))), (1, (.int .u64 m.seq)), (4, (.bool m.ifr)), (5, (.bool m.clo)), (6, (.int .i64 m.ty)), (7, (.int .u64 m.dsq)), (8, (.float .f64 (fb m.st))), (9, (.bool m.pre)), (10, (.int .i64 m.ver)), (11, (.slice kva kvn kvc)), (12, (.slice mva mvn mvc))]) (v := (.agg #[(.float .f64 (fn m.td)), (.int .u64 m.seq), (.slice none 0 0), (.string ⟨#[]⟩), (.bool m.ifr), (.bool m.clo), (.int .i64 m.ty), (.int .u64 m.dsq), (.float .f64 (fb m.st)), (.bool m.pre), (.int .i64 m.ver), (.slice kva kvn kvc), (.slice mva mvn mvc), (.int .i64 0)])) (by have e0 : a29.eval (.tmp 8) = (.float .f64 (fn m.td)) := h8_29; have e1 : a29.eval (.tmp 10) = (.int .u64 m.seq) := h10_29; have e4 : a29.eval (.tmp 12) = (.bool m.ifr) := h12_29; have e5 : a29.eval (.tmp 14) = (.bool m.clo) := h14_29; have e6 : a29.eval (.tmp 16) = (.int .i64 m.ty) := h16_29; have e7 : a29.eval (.tmp 18) = (.int .u64 m.dsq) := h18_29; have e8 : a29.eval (.tmp 22) = (.float .f64 (fb m.st)) := h22_29; have e9 : a29.eval (.tmp 24) = (.bool m.pre) := h24_29; have e10 : a29.eval (.tmp 26) = (.int .i64 m.ver) := h26_29; have e11 : a29.eval (.tmp 29) = (.slice kva kvn kvc) := (u29.w h29_28); have e12 : a29.eval (.tmp 32) = (.slice mva mvn mvc) := h32_29; simp only [List.map_toArray, List.map_cons, List.map_nil, e0, e1, e4, e5, e6, e7, e8, e9, e10, e11, e12]) (by kernel_rfl)) (B1_5) F29.l fun a30 u30 h33_30 => ?_
        have F30 := F29.pt u30
        refine tree1 (j := 28) (by kernel_rfl) ?_
        obtain ⟨g3, hg3⟩ : ∃ g, w5.heap.size = g := ⟨_, rfl⟩
        have ne_1_3 : g1 ≠ g3 := by have := B1_5.lt; omega
        have ne_2_3 : g2 ≠ g3 := by have := B2_5.lt; omega
        have ge_3 : w0.heap.size ≤ g3 := by have := Kp5.size; omega
        obtain ⟨w6, hr6, B3_6, G6, hs6⟩ := al_run (op := Instr.alloc 36 true (.tuple #[])) (T := 36) (cs := #[(.float .f64 0), (.int .u64 0), (.slice none 0 0), (.string ⟨#[]⟩), (.bool false), (.bool false), (.int .i64 0), (.int .u64 0), (.float .f64 0), (.bool false), (.int .i64 0), (.slice none 0 0), (.slice none 0 0), (.int .i64 0)]) hg3 (fun _ => by kernel_rfl)
        have B1_6 := B1_5.gn G6
        have B2_6 := B2_5.gn G6
        have Kp6 := Kp5.new G6
        have ks_6 := ks_5.gn G6
        have ms_6 := ms_5.gn G6
        refine tk_p rfl (ex_al hr6) (B1_6) F30.l fun a31 u31 (h3_31 : a31.tmps.getD 3 undef = (.pointer (some ⟨g3, 0, none⟩))) => ?_
        have F31 := F30.pt u31
        refine tree1 (j := 29) (by kernel_rfl) ?_
        obtain ⟨w7, hr7, B3_7, G7⟩ := sta_run (T := 36) (cs := #[(.float .f64 (fn m.td)), (.int .u64 m.seq), (.slice none 0 0), (.string ⟨#[]⟩), (.bool m.ifr), (.bool m.clo), (.int .i64 m.ty), (.int .u64 m.dsq), (.float .f64 (fb m.st)), (.bool m.pre), (.int .i64 m.ver), (.slice kva kvn kvc), (.slice mva mvn mvc), (.int .i64 0)]) (fun _ => by kernel_rfl) B3_6 rfl rfl (by first | exact rfl | exact one_ssegC _ _ _ | simp [Value.oneCell'])
        have B1_7 := B1_6.gk G7 ne_1_3
        have B2_7 := B2_6.gk G7 ne_2_3
        have Kp7 := Kp6.set G7 (Or.inr ge_3)
        have ks_7 := ks_6.gk2 B3_6 (by decide) G7
        have ms_7 := ms_6.gk2 B3_6 (by decide) G7
        refine tk_n rfl (ex_st h3_31 (u31.w h33_30) hr7) (B1_7) ?_
        refine tree0 (by kernel_rfl) ?_
        change Code.wp _ (Code.seq _ _) _ _ _
        have h1_31 := u31.w (u30.w (u29.w (u28.w (u27.w (u26.w (u25.w (u24.w h1_23)))))))
        have h2_31 := u31.w (u30.w (u29.w (u28.w (u27.w (u26.w (u25.w (u24.w (u23.w (u22.w (u21.w (u20.w (u19.w (u18.w (u17.w (u16.w (u15.w (u14.w (u13.w (u12.w (u11.w (u10.w (u9.w (u8.w (u7.w (u6.w (u5.w (u4.w (u3.w h2_2))))))))))))))))))))))))))))
        have hJ : JTo w0 sv m kp mp segs key map g1 g2 g3 0 a31 w7 := ⟨F31, h1_31, h2_31, h3_31, B1_7, B2_7, ⟨.slice none 0 0, _, _, B3_7, .nil, ks_7, ms_7⟩, Kp7, ge_1, ge_2, ge_3, ne_1_2, ne_1_3, ne_2_3⟩
        refine wp_seq (tm_loop hR hl he hJ fun a w hJ => (?_ : Code.wp _ _ _ _ _))
        exact tm_end hJ
      · obtain ⟨g3, hg3⟩ : ∃ g, w5.heap.size = g := ⟨_, rfl⟩
        have ne_1_3 : g1 ≠ g3 := by have := B1_5.lt; omega
        have ne_2_3 : g2 ≠ g3 := by have := B2_5.lt; omega
        have ge_3 : w0.heap.size ≤ g3 := by have := Kp5.size; omega
        obtain ⟨w6, hr6, B3_6, G6, hs6⟩ := al_run (op := Instr.alloc 36 true (.tuple #[])) (T := 36) (cs := #[(.float .f64 0), (.int .u64 0), (.slice none 0 0), (.string ⟨#[]⟩), (.bool false), (.bool false), (.int .i64 0), (.int .u64 0), (.float .f64 0), (.bool false), (.int .i64 0), (.slice none 0 0), (.slice none 0 0), (.int .i64 0)]) hg3 (fun _ => by kernel_rfl)
        have B1_6 := B1_5.gn G6
        have B2_6 := B2_5.gn G6
        have Kp6 := Kp5.new G6
        have ks_6 := ks_5.gn G6
        have ms_6 := ms_5.gn G6
        refine tk_p rfl (ex_al hr6) (B1_6) F29.l fun a30 u30 (h3_30 : a30.tmps.getD 3 undef = (.pointer (some ⟨g3, 0, none⟩))) => ?_
        have F30 := F29.pt u30
        refine tree1 (j := 27) (by kernel_rfl) ?_
        have h8_30 := u30.w (u29.w (u28.w (u27.w (u26.w (u25.w (u24.w (u23.w (u22.w (u21.w (u20.w (u19.w (u18.w (u17.w (u16.w (u15.w (u14.w (u13.w (u12.w (u11.w (u10.w (u9.w (u8.w (u7.w (u6.w h8_5))))))))))))))))))))))))
        have h10_30 := u30.w (u29.w (u28.w (u27.w (u26.w (u25.w (u24.w (u23.w (u22.w (u21.w (u20.w (u19.w (u18.w (u17.w (u16.w (u15.w (u14.w (u13.w (u12.w (u11.w (u10.w (u9.w (u8.w h10_7))))))))))))))))))))))
        have h12_30 := u30.w (u29.w (u28.w (u27.w (u26.w (u25.w (u24.w (u23.w (u22.w (u21.w (u20.w (u19.w (u18.w (u17.w (u16.w (u15.w (u14.w (u13.w (u12.w (u11.w (u10.w h12_9))))))))))))))))))))
        have h14_30 := u30.w (u29.w (u28.w (u27.w (u26.w (u25.w (u24.w (u23.w (u22.w (u21.w (u20.w (u19.w (u18.w (u17.w (u16.w (u15.w (u14.w (u13.w (u12.w h14_11))))))))))))))))))
        have h16_30 := u30.w (u29.w (u28.w (u27.w (u26.w (u25.w (u24.w (u23.w (u22.w (u21.w (u20.w (u19.w (u18.w (u17.w (u16.w (u15.w (u14.w h16_13))))))))))))))))
        have h18_30 := u30.w (u29.w (u28.w (u27.w (u26.w (u25.w (u24.w (u23.w (u22.w (u21.w (u20.w (u19.w (u18.w (u17.w (u16.w h18_15))))))))))))))
        have h22_30 := u30.w (u29.w (u28.w (u27.w (u26.w (u25.w (u24.w (u23.w (u22.w (u21.w (u20.w h22_19))))))))))
        have h24_30 := u30.w (u29.w (u28.w (u27.w (u26.w (u25.w (u24.w (u23.w (u22.w h24_21))))))))
        have h26_30 := u30.w (u29.w (u28.w (u27.w (u26.w (u25.w (u24.w h26_23))))))
        refine tk_p rfl (ex_bd (w' := w6) (vs :=  #[(0, (.float .f64 (fn m.td))), (1, (.int .u64 m.seq)), (4, (.bool m.ifr)), (5, (.bool m.clo)), (6, (.int .i64 m.ty)), (7, (.int .u64 m.dsq)), (8, (.float .f64 (fb m.st))), (9, (.bool m.pre)), (10, (.int .i64 m.ver)), (11, (.slice kva kvn kvc)), (12, (.slice mva mvn mvc))]) (v := (.agg #[(.float .f64 (fn m.td)), (.int .u64 m.seq), (.slice none 0 0), (.string ⟨#[]⟩), (.bool m.ifr), (.bool m.clo), (.int .i64 m.ty), (.int .u64 m.dsq), (.float .f64 (fb m.st)), (.bool m.pre), (.int .i64 m.ver), (.slice kva kvn kvc), (.slice mva mvn mvc), (.int .i64 0)])) (by have e0 : a30.eval (.tmp 8) = (.float .f64 (fn m.td)) := h8_30; have e1 : a30.eval (.tmp 10) = (.int .u64 m.seq) := h10_30; have e4 : a30.eval (.tmp 12) = (.bool m.ifr) := h12_30; have e5 : a30.eval (.tmp 14) = (.bool m.clo) := h14_30; have e6 : a30.eval (.tmp 16) = (.int .i64 m.ty) := h16_30; have e7 : a30.eval (.tmp 18) = (.int .u64 m.dsq) := h18_30; have e8 : a30.eval (.tmp 22) = (.float .f64 (fb m.st)) := h22_30; have e9 : a30.eval (.tmp 24) = (.bool m.pre) := h24_30; have e10 : a30.eval (.tmp 26) = (.int .i64 m.ver) := h26_30; have e11 : a30.eval (.tmp 29) = (.slice kva kvn kvc) := (u30.w (u29.w h29_28)); have e12 : a30.eval (.tmp 32) = (.slice mva mvn mvc) := (u30.w h32_29); simp only [List.map_toArray, List.map_cons, List.map_nil, e0, e1, e4, e5, e6, e7, e8, e9, e10, e11, e12]) (by kernel_rfl)) (B1_6) F30.l fun a31 u31 h33_31 => ?_
        have F31 := F30.pt u31
        refine tree1 (j := 29) (by kernel_rfl) ?_
        obtain ⟨w7, hr7, B3_7, G7⟩ := sta_run (T := 36) (cs := #[(.float .f64 (fn m.td)), (.int .u64 m.seq), (.slice none 0 0), (.string ⟨#[]⟩), (.bool m.ifr), (.bool m.clo), (.int .i64 m.ty), (.int .u64 m.dsq), (.float .f64 (fb m.st)), (.bool m.pre), (.int .i64 m.ver), (.slice kva kvn kvc), (.slice mva mvn mvc), (.int .i64 0)]) (fun _ => by kernel_rfl) B3_6 rfl rfl (by first | exact rfl | exact one_ssegC _ _ _ | simp [Value.oneCell'])
        have B1_7 := B1_6.gk G7 ne_1_3
        have B2_7 := B2_6.gk G7 ne_2_3
        have Kp7 := Kp6.set G7 (Or.inr ge_3)
        have ks_7 := ks_6.gk2 B3_6 (by decide) G7
        have ms_7 := ms_6.gk2 B3_6 (by decide) G7
        refine tk_n rfl (ex_st (u31.w h3_30) h33_31 hr7) (B1_7) ?_
        refine tree0 (by kernel_rfl) ?_
        change Code.wp _ (Code.seq _ _) _ _ _
        have h1_31 := u31.w (u30.w (u29.w (u28.w (u27.w (u26.w (u25.w (u24.w h1_23)))))))
        have h2_31 := u31.w (u30.w (u29.w (u28.w (u27.w (u26.w (u25.w (u24.w (u23.w (u22.w (u21.w (u20.w (u19.w (u18.w (u17.w (u16.w (u15.w (u14.w (u13.w (u12.w (u11.w (u10.w (u9.w (u8.w (u7.w (u6.w (u5.w (u4.w (u3.w h2_2))))))))))))))))))))))))))))
        have hJ : JTo w0 sv m kp mp segs key map g1 g2 g3 0 a31 w7 := ⟨F31, h1_31, h2_31, (u31.w h3_30), B1_7, B2_7, ⟨.slice none 0 0, _, _, B3_7, .nil, ks_7, ms_7⟩, Kp7, ge_1, ge_2, ge_3, ne_1_2, ne_1_3, ne_2_3⟩
        refine wp_seq (tm_loop hR hl he hJ fun a w hJ => (?_ : Code.wp _ _ _ _ _))
        exact tm_end hJ
    · obtain ⟨g3, hg3⟩ : ∃ g, w4.heap.size = g := ⟨_, rfl⟩
      have ne_1_3 : g1 ≠ g3 := by have := B1_4.lt; omega
      have ne_2_3 : g2 ≠ g3 := by have := B2_4.lt; omega
      have ge_3 : w0.heap.size ≤ g3 := by have := Kp4.size; omega
      obtain ⟨w5, hr5, B3_5, G5, hs5⟩ := al_run (op := Instr.alloc 36 true (.tuple #[])) (T := 36) (cs := #[(.float .f64 0), (.int .u64 0), (.slice none 0 0), (.string ⟨#[]⟩), (.bool false), (.bool false), (.int .i64 0), (.int .u64 0), (.float .f64 0), (.bool false), (.int .i64 0), (.slice none 0 0), (.slice none 0 0), (.int .i64 0)]) hg3 (fun _ => by kernel_rfl)
      have B1_5 := B1_4.gn G5
      have B2_5 := B2_4.gn G5
      have Kp5 := Kp4.new G5
      have sm_5 := sm_4.gn G5
      have ks_5 := ks_4.gn G5
      refine tk_p rfl (ex_al hr5) (B1_5) F28.l fun a29 u29 (h3_29 : a29.tmps.getD 3 undef = (.pointer (some ⟨g3, 0, none⟩))) => ?_
      have F29 := F28.pt u29
      refine tree1 (j := 26) (by kernel_rfl) ?_
      refine tk_cl (args := #[(pto mp)]) (R := fun v w' => MapSl w' v map ∧ w5.grownBy w' none) rfl (ex_cl (fun _ _ => by kernel_rfl) (arg1 (u29.w (u28.w h31_27)))) ((toMaps_any sm_5).mono fun _ _ ⟨kv, h⟩ => ⟨_, h.1, h.2⟩) F29.l ?_
      rintro mv w6 ⟨ms_6, G6⟩
      obtain ⟨mva, mvn, mvc, rfl⟩ := MapSl.shape ms_6
      have B1_6 := B1_5.gn G6
      have B2_6 := B2_5.gn G6
      have B3_6 := B3_5.gn G6
      have Kp6 := Kp5.new G6
      have ks_6 := ks_5.gn G6
      refine ⟨B1_6, ?_⟩
      intro a30 u30 h32_30
      have F30 := F29.pt u30
      refine tree1 (j := 27) (by kernel_rfl) ?_
      have h8_30 := u30.w (u29.w (u28.w (u27.w (u26.w (u25.w (u24.w (u23.w (u22.w (u21.w (u20.w (u19.w (u18.w (u17.w (u16.w (u15.w (u14.w (u13.w (u12.w (u11.w (u10.w (u9.w (u8.w (u7.w (u6.w h8_5))))))))))))))))))))))))
      have h10_30 := u30.w (u29.w (u28.w (u27.w (u26.w (u25.w (u24.w (u23.w (u22.w (u21.w (u20.w (u19.w (u18.w (u17.w (u16.w (u15.w (u14.w (u13.w (u12.w (u11.w (u10.w (u9.w (u8.w h10_7))))))))))))))))))))))
      have h12_30 := u30.w (u29.w (u28.w (u27.w (u26.w (u25.w (u24.w (u23.w (u22.w (u21.w (u20.w (u19.w (u18.w (u17.w (u16.w (u15.w (u14.w (u13.w (u12.w (u11.w (u10.w h12_9))))))))))))))))))))
      have h14_30 := u30.w (u29.w (u28.w (u27.w (u26.w (u25.w (u24.w (u23.w (u22.w (u21.w (u20.w (u19.w (u18.w (u17.w (u16.w (u15.w (u14.w (u13.w (u12.w h14_11))))))))))))))))))
      have h16_30 := u30.w (u29.w (u28.w (u27.w (u26.w (u25.w (u24.w (u23.w (u22.w (u21.w (u20.w (u19.w (u18.w (u17.w (u16.w (u15.w (u14.w h16_13))))))))))))))))
      have h18_30 := u30.w (u29.w (u28.w (u27.w (u26.w (u25.w (u24.w (u23.w (u22.w (u21.w (u20.w (u19.w (u18.w (u17.w (u16.w h18_15))))))))))))))
      have h22_30 := u30.w (u29.w (u28.w (u27.w (u26.w (u25.w (u24.w (u23.w (u22.w (u21.w (u20.w h22_19))))))))))
      have h24_30 := u30.w (u29.w (u28.w (u27.w (u26.w (u25.w (u24.w (u23.w (u22.w h24_21))))))))
      have h26_30 := u30.w (u29.w (u28.w (u27.w (u26.w (u25.w (u24.w h26_23))))))
      refine tk_p rfl (ex_bd (w' := w6) (vs :=  #[(0, (.float .f64 (fn m.td))), (1, (.int .u64 m.seq)), (4, (.bool m.ifr)), (5, (.bool m.clo)), (6, (.int .i64 m.ty)), (7, (.int .u64 m.dsq)), (8, (.float .f64 (fb m.st))), (9, (.bool m.pre)), (10, (.int .i64 m.ver)), (11, (.slice kva kvn kvc)), (12, (.slice mva mvn mvc))]) (v := (.agg #[(.float .f64 (fn m.td)), (.int .u64 m.seq), (.slice none 0 0), (.string ⟨#[]⟩), (.bool m.ifr), (.bool m.clo), (.int .i64 m.ty), (.int .u64 m.dsq), (.float .f64 (fb m.st)), (.bool m.pre), (.int .i64 m.ver), (.slice kva kvn kvc), (.slice mva mvn mvc), (.int .i64 0)])) (by have e0 : a30.eval (.tmp 8) = (.float .f64 (fn m.td)) := h8_30; have e1 : a30.eval (.tmp 10) = (.int .u64 m.seq) := h10_30; have e4 : a30.eval (.tmp 12) = (.bool m.ifr) := h12_30; have e5 : a30.eval (.tmp 14) = (.bool m.clo) := h14_30; have e6 : a30.eval (.tmp 16) = (.int .i64 m.ty) := h16_30; have e7 : a30.eval (.tmp 18) = (.int .u64 m.dsq) := h18_30; have e8 : a30.eval (.tmp 22) = (.float .f64 (fb m.st)) := h22_30; have e9 : a30.eval (.tmp 24) = (.bool m.pre) := h24_30; have e10 : a30.eval (.tmp 26) = (.int .i64 m.ver) := h26_30; have e11 : a30.eval (.tmp 29) = (.slice kva kvn kvc) := (u30.w (u29.w h29_28)); have e12 : a30.eval (.tmp 32) = (.slice mva mvn mvc) := h32_30; simp only [List.map_toArray, List.map_cons, List.map_nil, e0, e1, e4, e5, e6, e7, e8, e9, e10, e11, e12]) (by kernel_rfl)) (B1_6) F30.l fun a31 u31 h33_31 => ?_
      have F31 := F30.pt u31
      refine tree1 (j := 29) (by kernel_rfl) ?_
      obtain ⟨w7, hr7, B3_7, G7⟩ := sta_run (T := 36) (cs := #[(.float .f64 (fn m.td)), (.int .u64 m.seq), (.slice none 0 0), (.string ⟨#[]⟩), (.bool m.ifr), (.bool m.clo), (.int .i64 m.ty), (.int .u64 m.dsq), (.float .f64 (fb m.st)), (.bool m.pre), (.int .i64 m.ver), (.slice kva kvn kvc), (.slice mva mvn mvc), (.int .i64 0)]) (fun _ => by kernel_rfl) B3_6 rfl rfl (by first | exact rfl | exact one_ssegC _ _ _ | simp [Value.oneCell'])
      have B1_7 := B1_6.gk G7 ne_1_3
      have B2_7 := B2_6.gk G7 ne_2_3
      have Kp7 := Kp6.set G7 (Or.inr ge_3)
      have ks_7 := ks_6.gk2 B3_6 (by decide) G7
      have ms_7 := ms_6.gk2 B3_6 (by decide) G7
      refine tk_n rfl (ex_st (u31.w (u30.w h3_29)) h33_31 hr7) (B1_7) ?_
      refine tree0 (by kernel_rfl) ?_
      change Code.wp _ (Code.seq _ _) _ _ _
      have h1_31 := u31.w (u30.w (u29.w (u28.w (u27.w (u26.w (u25.w (u24.w h1_23)))))))
      have h2_31 := u31.w (u30.w (u29.w (u28.w (u27.w (u26.w (u25.w (u24.w (u23.w (u22.w (u21.w (u20.w (u19.w (u18.w (u17.w (u16.w (u15.w (u14.w (u13.w (u12.w (u11.w (u10.w (u9.w (u8.w (u7.w (u6.w (u5.w (u4.w (u3.w h2_2))))))))))))))))))))))))))))
      have hJ : JTo w0 sv m kp mp segs key map g1 g2 g3 0 a31 w7 := ⟨F31, h1_31, h2_31, (u31.w (u30.w h3_29)), B1_7, B2_7, ⟨.slice none 0 0, _, _, B3_7, .nil, ks_7, ms_7⟩, Kp7, ge_1, ge_2, ge_3, ne_1_2, ne_1_3, ne_2_3⟩
      refine wp_seq (tm_loop hR hl he hJ fun a w hJ => (?_ : Code.wp _ _ _ _ _))
      exact tm_end hJ
  · obtain ⟨g3, hg3⟩ : ∃ g, w3.heap.size = g := ⟨_, rfl⟩
    have ne_1_3 : g1 ≠ g3 := by have := B1_3.lt; omega
    have ne_2_3 : g2 ≠ g3 := by have := B2_3.lt; omega
    have ge_3 : w0.heap.size ≤ g3 := by have := Kp3.size; omega
    obtain ⟨w4, hr4, B3_4, G4, hs4⟩ := al_run (op := Instr.alloc 36 true (.tuple #[])) (T := 36) (cs := #[(.float .f64 0), (.int .u64 0), (.slice none 0 0), (.string ⟨#[]⟩), (.bool false), (.bool false), (.int .i64 0), (.int .u64 0), (.float .f64 0), (.bool false), (.int .i64 0), (.slice none 0 0), (.slice none 0 0), (.int .i64 0)]) hg3 (fun _ => by kernel_rfl)
    have B1_4 := B1_3.gn G4
    have B2_4 := B2_3.gn G4
    have Kp4 := Kp3.new G4
    have sk_4 := sk_3.gn G4
    have sm_4 := sm_3.gn G4
    refine tk_p rfl (ex_al hr4) (B1_4) F27.l fun a28 u28 (h3_28 : a28.tmps.getD 3 undef = (.pointer (some ⟨g3, 0, none⟩))) => ?_
    have F28 := F27.pt u28
    refine tree1 (j := 23) (by kernel_rfl) ?_
    have h28_28 := u28.w (u27.w (u26.w h28_25))
    refine tk_cl (args := #[(pto kp)]) (R := fun v w' => KeySl w' v key ∧ w4.grownBy w' none) rfl (ex_cl (fun _ _ => by kernel_rfl) (arg1 h28_28)) ((toKeys_any sk_4).mono fun _ _ ⟨kv, h⟩ => ⟨_, h.1, h.2⟩) F28.l ?_
    rintro kv w5 ⟨ks_5, G5⟩
    obtain ⟨kva, kvn, kvc, rfl⟩ := KeySl.shape ks_5
    have B1_5 := B1_4.gn G5
    have B2_5 := B2_4.gn G5
    have B3_5 := B3_4.gn G5
    have Kp5 := Kp4.new G5
    have sm_5 := sm_4.gn G5
    refine ⟨B1_5, ?_⟩
    intro a29 u29 h29_29
    have F29 := F28.pt u29
    refine tree1 (j := 26) (by kernel_rfl) ?_
    refine tk_cl (args := #[(pto mp)]) (R := fun v w' => MapSl w' v map ∧ w5.grownBy w' none) rfl (ex_cl (fun _ _ => by kernel_rfl) (arg1 (u29.w (u28.w h31_27)))) ((toMaps_any sm_5).mono fun _ _ ⟨kv, h⟩ => ⟨_, h.1, h.2⟩) F29.l ?_
    rintro mv w6 ⟨ms_6, G6⟩
    obtain ⟨mva, mvn, mvc, rfl⟩ := MapSl.shape ms_6
    have B1_6 := B1_5.gn G6
    have B2_6 := B2_5.gn G6
    have B3_6 := B3_5.gn G6
    have Kp6 := Kp5.new G6
    have ks_6 := ks_5.gn G6
    refine ⟨B1_6, ?_⟩
    intro a30 u30 h32_30
    have F30 := F29.pt u30
    refine tree1 (j := 27) (by kernel_rfl) ?_
    have h8_30 := u30.w (u29.w (u28.w (u27.w (u26.w (u25.w (u24.w (u23.w (u22.w (u21.w (u20.w (u19.w (u18.w (u17.w (u16.w (u15.w (u14.w (u13.w (u12.w (u11.w (u10.w (u9.w (u8.w (u7.w (u6.w h8_5))))))))))))))))))))))))
    have h10_30 := u30.w (u29.w (u28.w (u27.w (u26.w (u25.w (u24.w (u23.w (u22.w (u21.w (u20.w (u19.w (u18.w (u17.w (u16.w (u15.w (u14.w (u13.w (u12.w (u11.w (u10.w (u9.w (u8.w h10_7))))))))))))))))))))))
    have h12_30 := u30.w (u29.w (u28.w (u27.w (u26.w (u25.w (u24.w (u23.w (u22.w (u21.w (u20.w (u19.w (u18.w (u17.w (u16.w (u15.w (u14.w (u13.w (u12.w (u11.w (u10.w h12_9))))))))))))))))))))
    have h14_30 := u30.w (u29.w (u28.w (u27.w (u26.w (u25.w (u24.w (u23.w (u22.w (u21.w (u20.w (u19.w (u18.w (u17.w (u16.w (u15.w (u14.w (u13.w (u12.w h14_11))))))))))))))))))
    have h16_30 := u30.w (u29.w (u28.w (u27.w (u26.w (u25.w (u24.w (u23.w (u22.w (u21.w (u20.w (u19.w (u18.w (u17.w (u16.w (u15.w (u14.w h16_13))))))))))))))))
    have h18_30 := u30.w (u29.w (u28.w (u27.w (u26.w (u25.w (u24.w (u23.w (u22.w (u21.w (u20.w (u19.w (u18.w (u17.w (u16.w h18_15))))))))))))))
    have h22_30 := u30.w (u29.w (u28.w (u27.w (u26.w (u25.w (u24.w (u23.w (u22.w (u21.w (u20.w h22_19))))))))))
    have h24_30 := u30.w (u29.w (u28.w (u27.w (u26.w (u25.w (u24.w (u23.w (u22.w h24_21))))))))
    have h26_30 := u30.w (u29.w (u28.w (u27.w (u26.w (u25.w (u24.w h26_23))))))
    refine tk_p rfl (ex_bd (w' := w6) (vs :=  #[(0, (.float .f64 (fn m.td))), (1, (.int .u64 m.seq)), (4, (.bool m.ifr)), (5, (.bool m.clo)), (6, (.int .i64 m.ty)), (7, (.int .u64 m.dsq)), (8, (.float .f64 (fb m.st))), (9, (.bool m.pre)), (10, (.int .i64 m.ver)), (11, (.slice kva kvn kvc)), (12, (.slice mva mvn mvc))]) (v := (.agg #[(.float .f64 (fn m.td)), (.int .u64 m.seq), (.slice none 0 0), (.string ⟨#[]⟩), (.bool m.ifr), (.bool m.clo), (.int .i64 m.ty), (.int .u64 m.dsq), (.float .f64 (fb m.st)), (.bool m.pre), (.int .i64 m.ver), (.slice kva kvn kvc), (.slice mva mvn mvc), (.int .i64 0)])) (by have e0 : a30.eval (.tmp 8) = (.float .f64 (fn m.td)) := h8_30; have e1 : a30.eval (.tmp 10) = (.int .u64 m.seq) := h10_30; have e4 : a30.eval (.tmp 12) = (.bool m.ifr) := h12_30; have e5 : a30.eval (.tmp 14) = (.bool m.clo) := h14_30; have e6 : a30.eval (.tmp 16) = (.int .i64 m.ty) := h16_30; have e7 : a30.eval (.tmp 18) = (.int .u64 m.dsq) := h18_30; have e8 : a30.eval (.tmp 22) = (.float .f64 (fb m.st)) := h22_30; have e9 : a30.eval (.tmp 24) = (.bool m.pre) := h24_30; have e10 : a30.eval (.tmp 26) = (.int .i64 m.ver) := h26_30; have e11 : a30.eval (.tmp 29) = (.slice kva kvn kvc) := (u30.w h29_29); have e12 : a30.eval (.tmp 32) = (.slice mva mvn mvc) := h32_30; simp only [List.map_toArray, List.map_cons, List.map_nil, e0, e1, e4, e5, e6, e7, e8, e9, e10, e11, e12]) (by kernel_rfl)) (B1_6) F30.l fun a31 u31 h33_31 => ?_
    have F31 := F30.pt u31
    refine tree1 (j := 29) (by kernel_rfl) ?_
    obtain ⟨w7, hr7, B3_7, G7⟩ := sta_run (T := 36) (cs := #[(.float .f64 (fn m.td)), (.int .u64 m.seq), (.slice none 0 0), (.string ⟨#[]⟩), (.bool m.ifr), (.bool m.clo), (.int .i64 m.ty), (.int .u64 m.dsq), (.float .f64 (fb m.st)), (.bool m.pre), (.int .i64 m.ver), (.slice kva kvn kvc), (.slice mva mvn mvc), (.int .i64 0)]) (fun _ => by kernel_rfl) B3_6 rfl rfl (by first | exact rfl | exact one_ssegC _ _ _ | simp [Value.oneCell'])
    have B1_7 := B1_6.gk G7 ne_1_3
    have B2_7 := B2_6.gk G7 ne_2_3
    have Kp7 := Kp6.set G7 (Or.inr ge_3)
    have ks_7 := ks_6.gk2 B3_6 (by decide) G7
    have ms_7 := ms_6.gk2 B3_6 (by decide) G7
    have h3_31 := u31.w (u30.w (u29.w h3_28))
    refine tk_n rfl (ex_st h3_31 h33_31 hr7) (B1_7) ?_
    refine tree0 (by kernel_rfl) ?_
    change Code.wp _ (Code.seq _ _) _ _ _
    have h1_31 := u31.w (u30.w (u29.w (u28.w (u27.w (u26.w (u25.w (u24.w h1_23)))))))
    have h2_31 := u31.w (u30.w (u29.w (u28.w (u27.w (u26.w (u25.w (u24.w (u23.w (u22.w (u21.w (u20.w (u19.w (u18.w (u17.w (u16.w (u15.w (u14.w (u13.w (u12.w (u11.w (u10.w (u9.w (u8.w (u7.w (u6.w (u5.w (u4.w (u3.w h2_2))))))))))))))))))))))))))))
    have hJ : JTo w0 sv m kp mp segs key map g1 g2 g3 0 a31 w7 := ⟨F31, h1_31, h2_31, h3_31, B1_7, B2_7, ⟨.slice none 0 0, _, _, B3_7, .nil, ks_7, ms_7⟩, Kp7, ge_1, ge_2, ge_3, ne_1_2, ne_1_3, ne_2_3⟩
    refine wp_seq (tm_loop hR hl he hJ fun a w hJ => (?_ : Code.wp _ _ _ _ _))
    exact tm_end hJ
end Go.Proofs.YtlphcidpaidclaaGreatDoor
