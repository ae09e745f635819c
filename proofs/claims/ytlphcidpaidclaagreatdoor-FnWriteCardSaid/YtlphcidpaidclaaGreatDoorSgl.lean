/-
  Tests and lengths that the makers of lines need.
-/
import Derived.Test.YtlphcidpaidclaaGreatDoorSgt
namespace Go.Proofs.YtlphcidpaidclaaGreatDoor
open Go.RowKit
set_option maxRecDepth 100000
section
variable {x y : Operand}
theorem bo_gtn2 (n : Nat) (w : World) : (do eqGuard .gtr 2 x y (.int .i64 n) (.int .i64 0); binOp .gtr 2 (.int .i64 n) (.int .i64 0) : Sem Value).run Tryz.prog w = .ok (.bool (decide (0 < n))) w := by
  simp [go_sem]
theorem bo_gtn3 (n : Nat) (w : World) : (do eqGuard .gtr 3 x y (.int .i64 n) (.int .i64 0); binOp .gtr 3 (.int .i64 n) (.int .i64 0) : Sem Value).run Tryz.prog w = .ok (.bool (decide (0 < n))) w := by
  simp [go_sem]
theorem bo_gtn25 (n : Nat) (w : World) : (do eqGuard .gtr 25 x y (.int .u64 n) (.int .u64 0); binOp .gtr 25 (.int .u64 n) (.int .u64 0) : Sem Value).run Tryz.prog w = .ok (.bool (decide (0 < n))) w := by
  simp [go_sem]
theorem bo_eqi (n k : Nat) (w : World) : (do eqGuard .eql 3 x y (.int .i64 n) (.int .i64 k); binOp .eql 3 (.int .i64 n) (.int .i64 k) : Sem Value).run Tryz.prog w = .ok (.bool (decide (n = k))) w := by
  simp [go_sem]
  by_cases h : n = k
  · subst h; simp
  · rw [decide_eq_false h]; simp; omega
theorem bo_strne' (a c : ByteArray) (w : World) : (do eqGuard .neq 9 x y (.string a) (.string c); binOp .neq 9 (.string a) (.string c) : Sem Value).run Tryz.prog w = .ok (.bool (strNe a c)) w := bo_strne a c w
end
theorem dl20 (n : Nat) (h : n < 10 ^ 20) : (Lib.decDigits n).length ≤ 20 := decDigits_len 20 n h (by decide)
end Go.Proofs.YtlphcidpaidclaaGreatDoor
namespace Go.Proofs.YtlphcidpaidclaaGreatDoor
open Go.RowKit
set_option maxRecDepth 100000
/-- what holds between the lines -/
structure JL (N : Nat) (w0 : World) (gb T : Nat) (cs : Array Value) (L : List UInt8) (n : Nat) (a : Act) (w : World) : Prop where
  fz : Fz N a
  t1 : a.tmps.getD 1 undef = .pointer (some ⟨gb, 0, none⟩)
  b : Blk w gb T cs
  row : ∃ v ls, a.tmps.getD 3 undef = v ∧ TRow w w0.heap.size v ls ∧ ls.flatten = L ∧ ls.length ≤ n
  kp : Kp [] w0 w
  hb : w0.heap.size ≤ gb

theorem sec3_len7 (n : Nat) (h : n < 4000) : (sec3 n).length ≤ 7 := by
  have d1 := decDigits_len 3 (n / 8) (by omega) (by decide)
  have d2 := decDigits_len 1 (n % 8 * 125 / 100) (by omega) (by decide)
  have d3 := decDigits_len 1 (n % 8 * 125 / 10 % 10) (by omega) (by decide)
  have d4 := decDigits_len 1 (n % 8 * 125 % 10) (by omega) (by decide)
  unfold sec3
  simp only [List.length_append, List.length_cons, List.length_nil]
  omega
theorem shortT_len (n : Nat) (h : n < 301) : (shortT n).length ≤ 7 := by
  have : ∀ m : Fin 301, (shortT m.val).length ≤ 7 := by decide +kernel
  exact this ⟨n, h⟩
theorem tb_26_eq (k : MapD) : tb_26 k [] = ([35, 69, 88, 84, 45, 88, 45, 77, 65, 80, 58, 85, 82, 73, 61, 34] : List UInt8) ++ k.uri.data.toList ++ [34] ++ (if 0 < k.li then [44, 66, 89, 84, 69, 82, 65, 78, 71, 69, 61] ++ Lib.decDigits k.li ++ [64] ++ Lib.decDigits k.off else []) ++ [10] := by
  simp only [tb_26, tx_31]
  by_cases h : 0 < k.li
  · rw [if_pos h, if_pos (by simp; omega)]; simp
  · rw [if_neg h, if_neg (by simp; omega)]; simp
theorem mapText_any (p : Nat) (k : MapD) (ok : k.Ok) (w0 : World) (h : Blk w0 p 92 (mapC k)) :
    Calls Tryz.prog 39 #[.pointer (some ⟨p, 0, none⟩)] w0 fun e w' => e = .returned (.string (bs (tb_26 k []))) ∧ w0.grownBy w' none := by
  refine calls_of_wp Tryz.func39 rfl ?_
  generalize hA : Act.mk _ _ = a0
  have F0 : Fz 34 a0 := by subst hA; exact ⟨by simp [Tryz.ntmps39], rfl⟩
  have h0_0 : a0.tmps.getD 0 undef = (.pointer (some ⟨p, 0, none⟩)) := by subst hA; exact fr_arg rfl
  clear hA
  have Kp0 := Kp.refl [] w0
  have hU : k.uri.data.toList.length ≤ 40 := ok.uri
  refine wp_seq ?_
  refine rg_list ?_
  refine wl_p (ex_as (v := (.string { data := #[] })) rfl) F0.l fun a1 u1 h2_1 => ?_
  have F1 := F0.pt u1
  change Code.wp _ (Code.seq _ _) _ _ _
  refine wp_seq ?_
  refine rg_list ?_
  refine wl_p (ex_mv (u1.w h0_0)) F1.l fun a2 u2 h4_2 => ?_
  have F2 := F1.pt u2
  refine wl_p (ex_nil h4_2) F2.l fun a3 u3 h5_3 => ?_
  have F3 := F2.pt u3
  refine wl_p (ex_fb 0 h5_3) F3.l fun a4 u4 h6_4 => ?_
  have F4 := F3.pt u4
  refine wl_p (ex_le (v := (.string k.uri)) h6_4 (h.cell 0)) F4.l fun a5 u5 h7_5 => ?_
  have F5 := F4.pt u5
  refine wl_p (ex_bin (vx := (.string { data := #[35, 69, 88, 84, 45, 88, 45, 77, 65, 80, 58, 85, 82, 73, 61, 34] })) (v := (.string (bs (([35, 69, 88, 84, 45, 88, 45, 77, 65, 80, 58, 85, 82, 73, 61, 34] : List UInt8) ++ k.uri.data.toList)))) rfl h7_5 (bo_adds ([35, 69, 88, 84, 45, 88, 45, 77, 65, 80, 58, 85, 82, 73, 61, 34] : List UInt8) k.uri.data.toList _ (by first | (simp only [List.length_append, List.length_cons, List.length_nil]; omega) | omega))) F5.l fun a6 u6 h8_6 => ?_
  have F6 := F5.pt u6
  refine wl_p (ex_bin (vy := (.string { data := #[34] })) (v := (.string (bs ((([35, 69, 88, 84, 45, 88, 45, 77, 65, 80, 58, 85, 82, 73, 61, 34] : List UInt8) ++ k.uri.data.toList) ++ ([34] : List UInt8))))) h8_6 rfl (bo_adds (([35, 69, 88, 84, 45, 88, 45, 77, 65, 80, 58, 85, 82, 73, 61, 34] : List UInt8) ++ k.uri.data.toList) ([34] : List UInt8) _ (by first | (simp only [List.length_append, List.length_cons, List.length_nil]; omega) | omega))) F6.l fun a7 u7 h9_7 => ?_
  have F7 := F6.pt u7
  refine wl_p (ex_as h9_7) F7.l fun a8 u8 h3_8 => ?_
  have F8 := F7.pt u8
  change Code.wp _ (Code.seq _ _) _ _ _
  refine wp_seq ?_
  refine wp_seq ?_
  refine rg_list ?_
  have h0_8 := u8.w (u7.w (u6.w (u5.w (u4.w (u3.w (u2.w (u1.w h0_0)))))))
  refine wl_p (ex_mv h0_8) F8.l fun a9 u9 h10_9 => ?_
  have F9 := F8.pt u9
  refine wl_p (ex_nil h10_9) F9.l fun a10 u10 h11_10 => ?_
  have F10 := F9.pt u10
  refine wl_p (ex_fb 1 h11_10) F10.l fun a11 u11 h12_11 => ?_
  have F11 := F10.pt u11
  refine wl_p (ex_le (v := (.int .i64 k.li)) h12_11 (h.cell 1)) F11.l fun a12 u12 h13_12 => ?_
  have F12 := F11.pt u12
  refine wl_p (ex_bin (vy := (.int .i64 0)) (v := (.bool (decide (0 < k.li)))) h13_12 rfl (bo_gtn2 k.li _)) F12.l fun a13 u13 h14_13 => ?_
  have F13 := F12.pt u13
  change Code.wp _ _ _ _ _
  by_cases hq : 0 < k.li
  · refine wp_cond_true (h14_13.trans (by rw [decide_eq_true hq])) ?_
    obtain ⟨w1, hw1⟩ : ∃ w, w = w0.drew := ⟨_, rfl⟩
    have G1 : w0.grownBy w1 none := hw1 ▸ grown_drew _
    have Bp_1 := h.gn G1
    have Kp1 := Kp0.new G1
    refine rg_tree (S := fun w' => Blk w' p 92 #[(.string k.uri), (.int .i64 k.li), (.int .i64 k.off)]) [] 18 hw1 ⟨rfl, by decide⟩ hmix (by kernel_rfl) (by kernel_rfl) (Bp_1) ?_
    clear h
    have h3_13 := u13.w (u12.w (u11.w (u10.w (u9.w h3_8))))
    refine tree_take (j := 0) rfl (by kernel_rfl) (by kernel_rfl) (by kernel_rfl) (fun w hw => ex_mv h3_13) (Bp_1) F13.l fun a14 u14 h15_14 => ?_
    have F14 := F13.pt u14
    have h0_14 := u14.w (u13.w (u12.w (u11.w (u10.w (u9.w h0_8)))))
    refine tree_take (j := 1) rfl (by kernel_rfl) (by kernel_rfl) (by kernel_rfl) (fun w hw => ex_mv h0_14) (Bp_1) F14.l fun a15 u15 h16_15 => ?_
    have F15 := F14.pt u15
    refine tree_take (j := 2) rfl (by kernel_rfl) (by kernel_rfl) (by kernel_rfl) (fun w hw => ex_nil h16_15) (Bp_1) F15.l fun a16 u16 h17_16 => ?_
    have F16 := F15.pt u16
    refine tree_take (j := 3) rfl (by kernel_rfl) (by kernel_rfl) (by kernel_rfl) (fun w hw => ex_fb 1 h17_16) (Bp_1) F16.l fun a17 u17 h18_17 => ?_
    have F17 := F16.pt u17
    refine tree_take (j := 4) rfl (by kernel_rfl) (by kernel_rfl) (by kernel_rfl) (fun w hw => ex_le (v := (.int .i64 k.li)) h18_17 (hw.cell 1)) (Bp_1) F17.l fun a18 u18 h19_18 => ?_
    have F18 := F17.pt u18
    refine tree_take (j := 5) rfl (by kernel_rfl) (by kernel_rfl) (by kernel_rfl) (fun w hw => ex_conv (vx := (.int .i64 k.li)) (v := (.int .u64 k.li)) h19_18 (cv_2_25 k.li (by have := ok.li; omega) _)) (Bp_1) F18.l fun a19 u19 h20_19 => ?_
    have F19 := F18.pt u19
    have h0_19 := u19.w (u18.w (u17.w (u16.w (u15.w h0_14))))
    refine tree_take (j := 9) rfl (by kernel_rfl) (by kernel_rfl) (by kernel_rfl) (fun w hw => ex_mv h0_19) (Bp_1) F19.l fun a20 u20 h24_20 => ?_
    have F20 := F19.pt u20
    refine tree_take (j := 10) rfl (by kernel_rfl) (by kernel_rfl) (by kernel_rfl) (fun w hw => ex_nil h24_20) (Bp_1) F20.l fun a21 u21 h25_21 => ?_
    have F21 := F20.pt u21
    refine tree_take (j := 11) rfl (by kernel_rfl) (by kernel_rfl) (by kernel_rfl) (fun w hw => ex_fb 2 h25_21) (Bp_1) F21.l fun a22 u22 h26_22 => ?_
    have F22 := F21.pt u22
    refine tree_take (j := 12) rfl (by kernel_rfl) (by kernel_rfl) (by kernel_rfl) (fun w hw => ex_le (v := (.int .i64 k.off)) h26_22 (hw.cell 2)) (Bp_1) F22.l fun a23 u23 h27_23 => ?_
    have F23 := F22.pt u23
    refine tree_take (j := 13) rfl (by kernel_rfl) (by kernel_rfl) (by kernel_rfl) (fun w hw => ex_conv (vx := (.int .i64 k.off)) (v := (.int .u64 k.off)) h27_23 (cv_2_25 k.off (by have := ok.off; omega) _)) (Bp_1) F23.l fun a24 u24 h28_24 => ?_
    have F24 := F23.pt u24
    refine tree1 (j := 6) (by kernel_rfl) ?_
    have h20_24 := u24.w (u23.w (u22.w (u21.w (u20.w h20_19))))
    refine tk_cl (args := #[(.int .u64 k.li)]) (R := fun v w' => v = .string (bs (Lib.decDigits k.li)) ∧ w1 = w') rfl (ex_cl (fun _ _ => by kernel_rfl) (arg1 h20_24)) ((decimal_any (k.li : Int) w1 (by omega) (by have := ok.li; omega)).mono fun _ _ h => ⟨_, h.1.trans (by rw [Int.toNat_natCast]), rfl, h.2⟩) F24.l ?_
    rintro v w' ⟨rfl, rfl⟩
    refine ⟨Bp_1, ?_⟩
    intro a25 u25 h21_25
    have F25 := F24.pt u25
    have hdk_li := dl20 k.li (by have := ok.li; omega)
    refine tree_take (j := 7) rfl (by kernel_rfl) (by kernel_rfl) (by kernel_rfl) (fun w hw => ex_bin (vx := (.string { data := #[44, 66, 89, 84, 69, 82, 65, 78, 71, 69, 61] })) (v := (.string (bs (([44, 66, 89, 84, 69, 82, 65, 78, 71, 69, 61] : List UInt8) ++ (Lib.decDigits k.li))))) rfl h21_25 (bo_adds ([44, 66, 89, 84, 69, 82, 65, 78, 71, 69, 61] : List UInt8) (Lib.decDigits k.li) _ (by first | (simp only [List.length_append, List.length_cons, List.length_nil]; omega) | omega))) (Bp_1) F25.l fun a26 u26 h22_26 => ?_
    have F26 := F25.pt u26
    refine tree_take (j := 8) rfl (by kernel_rfl) (by kernel_rfl) (by kernel_rfl) (fun w hw => ex_bin (vy := (.string { data := #[64] })) (v := (.string (bs ((([44, 66, 89, 84, 69, 82, 65, 78, 71, 69, 61] : List UInt8) ++ (Lib.decDigits k.li)) ++ ([64] : List UInt8))))) h22_26 rfl (bo_adds (([44, 66, 89, 84, 69, 82, 65, 78, 71, 69, 61] : List UInt8) ++ (Lib.decDigits k.li)) ([64] : List UInt8) _ (by first | (simp only [List.length_append, List.length_cons, List.length_nil]; omega) | omega))) (Bp_1) F26.l fun a27 u27 h23_27 => ?_
    have F27 := F26.pt u27
    refine tree1 (j := 14) (by kernel_rfl) ?_
    have h28_27 := u27.w (u26.w (u25.w h28_24))
    refine tk_cl (args := #[(.int .u64 k.off)]) (R := fun v w' => v = .string (bs (Lib.decDigits k.off)) ∧ w1 = w') rfl (ex_cl (fun _ _ => by kernel_rfl) (arg1 h28_27)) ((decimal_any (k.off : Int) w1 (by omega) (by have := ok.off; omega)).mono fun _ _ h => ⟨_, h.1.trans (by rw [Int.toNat_natCast]), rfl, h.2⟩) F27.l ?_
    rintro v w' ⟨rfl, rfl⟩
    refine ⟨Bp_1, ?_⟩
    intro a28 u28 h29_28
    have F28 := F27.pt u28
    have hdk_off := dl20 k.off (by have := ok.off; omega)
    refine tree_take (j := 15) rfl (by kernel_rfl) (by kernel_rfl) (by kernel_rfl) (fun w hw => ex_bin (v := (.string (bs (((([44, 66, 89, 84, 69, 82, 65, 78, 71, 69, 61] : List UInt8) ++ (Lib.decDigits k.li)) ++ ([64] : List UInt8)) ++ (Lib.decDigits k.off))))) (u28.w h23_27) h29_28 (bo_adds ((([44, 66, 89, 84, 69, 82, 65, 78, 71, 69, 61] : List UInt8) ++ (Lib.decDigits k.li)) ++ ([64] : List UInt8)) (Lib.decDigits k.off) _ (by first | (simp only [List.length_append, List.length_cons, List.length_nil]; omega) | omega))) (Bp_1) F28.l fun a29 u29 h30_29 => ?_
    have F29 := F28.pt u29
    have h15_29 := u29.w (u28.w (u27.w (u26.w (u25.w (u24.w (u23.w (u22.w (u21.w (u20.w (u19.w (u18.w (u17.w (u16.w (u15.w h15_14))))))))))))))
    refine tree_take (j := 16) rfl (by kernel_rfl) (by kernel_rfl) (by kernel_rfl) (fun w hw => ex_bin (v := (.string (bs (((([35, 69, 88, 84, 45, 88, 45, 77, 65, 80, 58, 85, 82, 73, 61, 34] : List UInt8) ++ k.uri.data.toList) ++ ([34] : List UInt8)) ++ (((([44, 66, 89, 84, 69, 82, 65, 78, 71, 69, 61] : List UInt8) ++ (Lib.decDigits k.li)) ++ ([64] : List UInt8)) ++ (Lib.decDigits k.off)))))) h15_29 h30_29 (bo_adds ((([35, 69, 88, 84, 45, 88, 45, 77, 65, 80, 58, 85, 82, 73, 61, 34] : List UInt8) ++ k.uri.data.toList) ++ ([34] : List UInt8)) (((([44, 66, 89, 84, 69, 82, 65, 78, 71, 69, 61] : List UInt8) ++ (Lib.decDigits k.li)) ++ ([64] : List UInt8)) ++ (Lib.decDigits k.off)) _ (by first | (simp only [List.length_append, List.length_cons, List.length_nil]; omega) | omega))) (Bp_1) F29.l fun a30 u30 h31_30 => ?_
    have F30 := F29.pt u30
    refine tree_take (j := 17) rfl (by kernel_rfl) (by kernel_rfl) (by kernel_rfl) (fun w hw => ex_as h31_30) (Bp_1) F30.l fun a31 u31 h3_31 => ?_
    have F31 := F30.pt u31
    refine tree0 (by kernel_rfl) ?_
    change Code.wp _ (Code.seq _ _) _ _ _
    refine wp_seq ?_
    refine rg_list ?_
    refine wl_p (ex_mv h3_31) F31.l fun a32 u32 h32_32 => ?_
    have F32 := F31.pt u32
    refine wl_p (ex_bin (vy := (.string { data := #[10] })) (v := (.string (bs ((((([35, 69, 88, 84, 45, 88, 45, 77, 65, 80, 58, 85, 82, 73, 61, 34] : List UInt8) ++ k.uri.data.toList) ++ ([34] : List UInt8)) ++ (((([44, 66, 89, 84, 69, 82, 65, 78, 71, 69, 61] : List UInt8) ++ (Lib.decDigits k.li)) ++ ([64] : List UInt8)) ++ (Lib.decDigits k.off))) ++ ([10] : List UInt8))))) h32_32 rfl (bo_adds (((([35, 69, 88, 84, 45, 88, 45, 77, 65, 80, 58, 85, 82, 73, 61, 34] : List UInt8) ++ k.uri.data.toList) ++ ([34] : List UInt8)) ++ (((([44, 66, 89, 84, 69, 82, 65, 78, 71, 69, 61] : List UInt8) ++ (Lib.decDigits k.li)) ++ ([64] : List UInt8)) ++ (Lib.decDigits k.off))) ([10] : List UInt8) _ (by first | (simp only [List.length_append, List.length_cons, List.length_nil]; omega) | omega))) F32.l fun a33 u33 h33_33 => ?_
    have F33 := F32.pt u33
    refine wl_p (ex_as h33_33) F33.l fun a34 u34 h2_34 => ?_
    have F34 := F33.pt u34
    refine wp_ret ?_
    try simp only [Exit.then, Exit.inBlock]
    exact bodyPost_ret (v := (.string (bs ((((([35, 69, 88, 84, 45, 88, 45, 77, 65, 80, 58, 85, 82, 73, 61, 34] : List UInt8) ++ k.uri.data.toList) ++ ([34] : List UInt8)) ++ (((([44, 66, 89, 84, 69, 82, 65, 78, 71, 69, 61] : List UInt8) ++ (Lib.decDigits k.li)) ++ ([64] : List UInt8)) ++ (Lib.decDigits k.off))) ++ ([10] : List UInt8))))) ((results_tmp rfl _ _ _).trans (by rw [h2_34])) F34.defers ⟨ret_str (congrArg bs (by simp [tb_26_eq, hq])), Kp1.grown⟩
  · refine wp_cond_false (h14_13.trans (by rw [decide_eq_false hq])) ?_
    refine wp_skip ?_
    change Code.wp _ (Code.seq _ _) _ _ _
    refine wp_seq ?_
    refine rg_list ?_
    have h3_13 := u13.w (u12.w (u11.w (u10.w (u9.w h3_8))))
    refine wl_p (ex_mv h3_13) F13.l fun a14 u14 h32_14 => ?_
    have F14 := F13.pt u14
    refine wl_p (ex_bin (vy := (.string { data := #[10] })) (v := (.string (bs (((([35, 69, 88, 84, 45, 88, 45, 77, 65, 80, 58, 85, 82, 73, 61, 34] : List UInt8) ++ k.uri.data.toList) ++ ([34] : List UInt8)) ++ ([10] : List UInt8))))) h32_14 rfl (bo_adds ((([35, 69, 88, 84, 45, 88, 45, 77, 65, 80, 58, 85, 82, 73, 61, 34] : List UInt8) ++ k.uri.data.toList) ++ ([34] : List UInt8)) ([10] : List UInt8) _ (by first | (simp only [List.length_append, List.length_cons, List.length_nil]; omega) | omega))) F14.l fun a15 u15 h33_15 => ?_
    have F15 := F14.pt u15
    refine wl_p (ex_as h33_15) F15.l fun a16 u16 h2_16 => ?_
    have F16 := F15.pt u16
    refine wp_ret ?_
    try simp only [Exit.then, Exit.inBlock]
    exact bodyPost_ret (v := (.string (bs (((([35, 69, 88, 84, 45, 88, 45, 77, 65, 80, 58, 85, 82, 73, 61, 34] : List UInt8) ++ k.uri.data.toList) ++ ([34] : List UInt8)) ++ ([10] : List UInt8))))) ((results_tmp rfl _ _ _).trans (by rw [h2_16])) F16.defers ⟨ret_str (congrArg bs (by simp [tb_26_eq, hq])), Kp0.grown⟩
section
variable {w00 w0 w : World} {s : SegD} {m : MedD} {kp mp : Option Nat} {key : Option KeyD} {map : Option MapD} {sv : Value} {g1 n : Nat} {a0 : Act} {L : List UInt8} {Q : Exit → Act → World → Prop}
noncomputable def liB : Code := Tryz.f28.body.getD .skip
noncomputable def heB : Code := Tryz.f26.body.getD .skip
theorem li_key (hk : SKey w00 kp key) (hn20 : n ≤ 20) (hJ : JL 68 w00 g1 53 #[(.string s.title), (.string s.uri), (.int .i64 s.e), (.int .i64 s.li), (.int .i64 s.off), (pto kp), (pto mp), (.bool s.disc), (.string s.date)] L n a0 w0) (hK : ∀ a' w', JL 68 w00 g1 53 #[(.string s.title), (.string s.uri), (.int .i64 s.e), (.int .i64 s.li), (.int .i64 s.off), (pto kp), (pto mp), (.bool s.disc), (.string s.date)] (L ++ optT tb_6 key []) (n + 1) a' w' → Q .normal a' w') : (cat [1, 1, 0] liB).wp Tryz.prog Q a0 w0 := by
  cases hk with
  | nil =>
    obtain ⟨F0, h1_0, B1_0, ⟨v0, ls, h3_0, R_0, hL, hn⟩, Kp0, hg1⟩ := hJ
    change Code.wp _ (Code.seq (Code.region _ _ _) (Code.cond _ _ _)) _ _ _
    refine wp_seq ?_
    refine rg_list ?_
    refine wl_p (ex_fb 5 h1_0) F0.l fun a1 u1 h5_1 => ?_
    have F1 := F0.pt u1
    refine wl_p (ex_le (v := (.pointer none)) h5_1 (B1_0.cell 5)) F1.l fun a2 u2 h6_2 => ?_
    have F2 := F1.pt u2
    refine wl_p (ex_bin (vy := (.pointer none)) (v := (.bool false)) h6_2 rfl (by kernel_rfl)) F2.l fun a3 u3 h7_3 => ?_
    have F3 := F2.pt u3
    change Code.wp _ _ _ _ _
    refine wp_cond_false h7_3 ?_
    refine wp_skip ?_
    have h1_3 := u3.w (u2.w (u1.w h1_0))
    have h3_3 := u3.w (u2.w (u1.w h3_0))
    exact hK _ _ ⟨F3, h1_3, B1_0, ⟨_, _, h3_3, R_0, by simp [hL, optT], by first | (simp only [List.length_append, List.length_cons, List.length_nil]; omega) | omega⟩, Kp0, hg1⟩
  | @mk q k hkB okk =>
    obtain ⟨F0, h1_0, B1_0, ⟨v0, ls, h3_0, R_0, hL, hn⟩, Kp0, hg1⟩ := hJ
    change Code.wp _ (Code.seq (Code.region _ _ _) (Code.cond _ _ _)) _ _ _
    refine wp_seq ?_
    refine rg_list ?_
    refine wl_p (ex_fb 5 h1_0) F0.l fun a1 u1 h5_1 => ?_
    have F1 := F0.pt u1
    refine wl_p (ex_le (v := (.pointer (some ⟨q, 0, none⟩))) h5_1 (B1_0.cell 5)) F1.l fun a2 u2 h6_2 => ?_
    have F2 := F1.pt u2
    refine wl_p (ex_bin (vy := (.pointer none)) (v := (.bool true)) h6_2 rfl (by kernel_rfl)) F2.l fun a3 u3 h7_3 => ?_
    have F3 := F2.pt u3
    change Code.wp _ _ _ _ _
    refine wp_cond_true h7_3 ?_
    refine rg_list ?_
    have h3_3 := u3.w (u2.w (u1.w h3_0))
    refine wl_p (ex_mv h3_3) F3.l fun a4 u4 h8_4 => ?_
    have F4 := F3.pt u4
    have h1_4 := u4.w (u3.w (u2.w (u1.w h1_0)))
    refine wl_p (ex_fb 5 h1_4) F4.l fun a5 u5 h9_5 => ?_
    have F5 := F4.pt u5
    refine wl_p (ex_le (v := (.pointer (some ⟨q, 0, none⟩))) h9_5 (B1_0.cell 5)) F5.l fun a6 u6 h10_6 => ?_
    have F6 := F5.pt u6
    refine wl_cl (args := #[(.pointer (some ⟨q, 0, none⟩))]) (R := fun v w' => v = .string (bs (tb_6 k [])) ∧ w0 = w') (ex_cl (fun _ _ => by kernel_rfl) (arg1 h10_6)) ((keyText_any _ k okk w0 (hkB.gn Kp0.grown)).mono fun _ _ h => ⟨_, h.1, rfl, h.2⟩) F6.l ?_
    rintro v w' ⟨rfl, rfl⟩
    intro a7 u7 h11_7
    have F7 := F6.pt u7
    obtain ⟨gs12_7, hgs12_7⟩ : ∃ g, w0.heap.size = g := ⟨_, rfl⟩
    have ne_1_s12_7 : g1 ≠ gs12_7 := by have := B1_0.lt; omega
    have ge_s12_7 : w00.heap.size ≤ gs12_7 := by have := Kp0.size; omega
    obtain ⟨w1, hr1, Bs12_7_1, G1, hs1⟩ := bs_run (op := Instr.buildSlice 85 1 #[(0, (.string (bs (tb_6 k []))))]) (n := 1) (T := 9) (cs := #[(.string (bs (tb_6 k [])))]) hgs12_7 (fun _ => by kernel_rfl)
    have B1_1 := B1_0.gn G1
    have Kp1 := Kp0.new G1
    have R_1 := R_0.gn G1
    refine wl_p (ex_bs (vs := #[(0, (.string (bs (tb_6 k []))))]) (by have e0 : a7.eval (.tmp 11) = (.string (bs (tb_6 k []))) := h11_7; simp only [List.map_toArray, List.map_cons, List.map_nil, e0]) hr1) F7.l fun a8 u8 (h12_8 : a8.tmps.getD 12 undef = (.slice (some ⟨gs12_7, 0, none⟩) 1 1)) => ?_
    have F8 := F7.pt u8
    obtain ⟨v2, w2, hr2, R_2, G2⟩ := R_1.push (ty := 85) (n := 1) (c := 1) [(tb_6 k [])] Bs12_7_1 rfl Kp1.size (by first | (simp only [List.length_append, List.length_cons, List.length_nil]; omega) | omega)
    have B1_2 := B1_1.row R_1 (by decide) G2
    have Kp2 := Kp1.row R_1 (Nat.le_refl _) G2
    have h8_8 := u8.w (u7.w (u6.w (u5.w h8_4)))
    refine wl_p (ex_app h8_8 h12_8 hr2) F8.l fun a9 u9 (h13_9 : a9.tmps.getD 13 undef = v2) => ?_
    have F9 := F8.pt u9
    refine wl_p (ex_as h13_9) F9.l fun a10 u10 h3_10 => ?_
    have F10 := F9.pt u10
    have h1_10 := u10.w (u9.w (u8.w (u7.w (u6.w (u5.w h1_4)))))
    exact hK _ _ ⟨F10, h1_10, B1_2, ⟨_, _, h3_10, R_2, by simp [hL, optT], by first | (simp only [List.length_append, List.length_cons, List.length_nil]; omega) | omega⟩, Kp2, hg1⟩
theorem li_disc  (hn20 : n ≤ 20) (hJ : JL 68 w00 g1 53 #[(.string s.title), (.string s.uri), (.int .i64 s.e), (.int .i64 s.li), (.int .i64 s.off), (pto kp), (pto mp), (.bool s.disc), (.string s.date)] L n a0 w0) (hK : ∀ a' w', JL 68 w00 g1 53 #[(.string s.title), (.string s.uri), (.int .i64 s.e), (.int .i64 s.li), (.int .i64 s.off), (pto kp), (pto mp), (.bool s.disc), (.string s.date)] (L ++ (if s.disc = true then [35, 69, 88, 84, 45, 88, 45, 68, 73, 83, 67, 79, 78, 84, 73, 78, 85, 73, 84, 89, 10] else [])) (n + 1) a' w' → Q .normal a' w') : (cat [1, 1, 1, 0] liB).wp Tryz.prog Q a0 w0 := by
  obtain ⟨F0, h1_0, B1_0, ⟨v0, ls, h3_0, R_0, hL, hn⟩, Kp0, hg1⟩ := hJ
  change Code.wp _ (Code.seq (Code.region _ _ _) (Code.cond _ _ _)) _ _ _
  refine wp_seq ?_
  refine rg_list ?_
  refine wl_p (ex_fb 7 h1_0) F0.l fun a1 u1 h14_1 => ?_
  have F1 := F0.pt u1
  refine wl_p (ex_le (v := (.bool s.disc)) h14_1 (B1_0.cell 7)) F1.l fun a2 u2 h15_2 => ?_
  have F2 := F1.pt u2
  change Code.wp _ _ _ _ _
  rcases Bool.eq_false_or_eq_true (s.disc) with hq | hq
  · refine wp_cond_true (h15_2.trans (by rw [hq])) ?_
    refine rg_list ?_
    refine wl_p (ex_mv (u2.w (u1.w h3_0))) F2.l fun a3 u3 h16_3 => ?_
    have F3 := F2.pt u3
    obtain ⟨gs17_3, hgs17_3⟩ : ∃ g, w0.heap.size = g := ⟨_, rfl⟩
    have ne_1_s17_3 : g1 ≠ gs17_3 := by have := B1_0.lt; omega
    have ge_s17_3 : w00.heap.size ≤ gs17_3 := by have := Kp0.size; omega
    obtain ⟨w1, hr1, Bs17_3_1, G1, hs1⟩ := bs_run (op := Instr.buildSlice 85 1 #[(0, (.string { data := #[35, 69, 88, 84, 45, 88, 45, 68, 73, 83, 67, 79, 78, 84, 73, 78, 85, 73, 84, 89, 10] }))]) (n := 1) (T := 9) (cs := #[(.string { data := #[35, 69, 88, 84, 45, 88, 45, 68, 73, 83, 67, 79, 78, 84, 73, 78, 85, 73, 84, 89, 10] })]) hgs17_3 (fun _ => by kernel_rfl)
    have B1_1 := B1_0.gn G1
    have Kp1 := Kp0.new G1
    have R_1 := R_0.gn G1
    refine wl_p (ex_bs (vs := #[(0, (.string { data := #[35, 69, 88, 84, 45, 88, 45, 68, 73, 83, 67, 79, 78, 84, 73, 78, 85, 73, 84, 89, 10] }))]) (by simp only [List.map_toArray, List.map_cons, List.map_nil, ev_const]) hr1) F3.l fun a4 u4 (h17_4 : a4.tmps.getD 17 undef = (.slice (some ⟨gs17_3, 0, none⟩) 1 1)) => ?_
    have F4 := F3.pt u4
    obtain ⟨v2, w2, hr2, R_2, G2⟩ := R_1.push (ty := 85) (n := 1) (c := 1) [([35, 69, 88, 84, 45, 88, 45, 68, 73, 83, 67, 79, 78, 84, 73, 78, 85, 73, 84, 89, 10] : List UInt8)] Bs17_3_1 rfl Kp1.size (by first | (simp only [List.length_append, List.length_cons, List.length_nil]; omega) | omega)
    have B1_2 := B1_1.row R_1 (by decide) G2
    have Kp2 := Kp1.row R_1 (Nat.le_refl _) G2
    refine wl_p (ex_app (u4.w h16_3) h17_4 hr2) F4.l fun a5 u5 (h18_5 : a5.tmps.getD 18 undef = v2) => ?_
    have F5 := F4.pt u5
    refine wl_p (ex_as h18_5) F5.l fun a6 u6 h3_6 => ?_
    have F6 := F5.pt u6
    have h1_6 := u6.w (u5.w (u4.w (u3.w (u2.w (u1.w h1_0)))))
    exact hK _ _ ⟨F6, h1_6, B1_2, ⟨_, _, h3_6, R_2, by simp [hL, hq], by first | (simp only [List.length_append, List.length_cons, List.length_nil]; omega) | omega⟩, Kp2, hg1⟩
  · refine wp_cond_false (h15_2.trans (by rw [hq])) ?_
    refine wp_skip ?_
    exact hK _ _ ⟨F2, (u2.w (u1.w h1_0)), B1_0, ⟨_, _, (u2.w (u1.w h3_0)), R_0, by simp [hL, hq], by first | (simp only [List.length_append, List.length_cons, List.length_nil]; omega) | omega⟩, Kp0, hg1⟩
theorem li_map (hm : SMap w00 mp map) (hn20 : n ≤ 20) (hJ : JL 68 w00 g1 53 #[(.string s.title), (.string s.uri), (.int .i64 s.e), (.int .i64 s.li), (.int .i64 s.off), (pto kp), (pto mp), (.bool s.disc), (.string s.date)] L n a0 w0) (hK : ∀ a' w', JL 68 w00 g1 53 #[(.string s.title), (.string s.uri), (.int .i64 s.e), (.int .i64 s.li), (.int .i64 s.off), (pto kp), (pto mp), (.bool s.disc), (.string s.date)] (L ++ optT tb_26 map []) (n + 1) a' w' → Q .normal a' w') : (cat [1, 1, 1, 1, 0] liB).wp Tryz.prog Q a0 w0 := by
  cases hm with
  | nil =>
    obtain ⟨F0, h1_0, B1_0, ⟨v0, ls, h3_0, R_0, hL, hn⟩, Kp0, hg1⟩ := hJ
    change Code.wp _ (Code.seq (Code.region _ _ _) (Code.cond _ _ _)) _ _ _
    refine wp_seq ?_
    refine rg_list ?_
    refine wl_p (ex_fb 6 h1_0) F0.l fun a1 u1 h19_1 => ?_
    have F1 := F0.pt u1
    refine wl_p (ex_le (v := (.pointer none)) h19_1 (B1_0.cell 6)) F1.l fun a2 u2 h20_2 => ?_
    have F2 := F1.pt u2
    refine wl_p (ex_bin (vy := (.pointer none)) (v := (.bool false)) h20_2 rfl (by kernel_rfl)) F2.l fun a3 u3 h21_3 => ?_
    have F3 := F2.pt u3
    change Code.wp _ _ _ _ _
    refine wp_cond_false h21_3 ?_
    refine wp_skip ?_
    have h1_3 := u3.w (u2.w (u1.w h1_0))
    have h3_3 := u3.w (u2.w (u1.w h3_0))
    exact hK _ _ ⟨F3, h1_3, B1_0, ⟨_, _, h3_3, R_0, by simp [hL, optT], by first | (simp only [List.length_append, List.length_cons, List.length_nil]; omega) | omega⟩, Kp0, hg1⟩
  | @mk q k hkB okk =>
    obtain ⟨F0, h1_0, B1_0, ⟨v0, ls, h3_0, R_0, hL, hn⟩, Kp0, hg1⟩ := hJ
    change Code.wp _ (Code.seq (Code.region _ _ _) (Code.cond _ _ _)) _ _ _
    refine wp_seq ?_
    refine rg_list ?_
    refine wl_p (ex_fb 6 h1_0) F0.l fun a1 u1 h19_1 => ?_
    have F1 := F0.pt u1
    refine wl_p (ex_le (v := (.pointer (some ⟨q, 0, none⟩))) h19_1 (B1_0.cell 6)) F1.l fun a2 u2 h20_2 => ?_
    have F2 := F1.pt u2
    refine wl_p (ex_bin (vy := (.pointer none)) (v := (.bool true)) h20_2 rfl (by kernel_rfl)) F2.l fun a3 u3 h21_3 => ?_
    have F3 := F2.pt u3
    change Code.wp _ _ _ _ _
    refine wp_cond_true h21_3 ?_
    refine rg_list ?_
    have h3_3 := u3.w (u2.w (u1.w h3_0))
    refine wl_p (ex_mv h3_3) F3.l fun a4 u4 h22_4 => ?_
    have F4 := F3.pt u4
    have h1_4 := u4.w (u3.w (u2.w (u1.w h1_0)))
    refine wl_p (ex_fb 6 h1_4) F4.l fun a5 u5 h23_5 => ?_
    have F5 := F4.pt u5
    refine wl_p (ex_le (v := (.pointer (some ⟨q, 0, none⟩))) h23_5 (B1_0.cell 6)) F5.l fun a6 u6 h24_6 => ?_
    have F6 := F5.pt u6
    refine wl_cl (args := #[(.pointer (some ⟨q, 0, none⟩))]) (R := fun v w' => v = .string (bs (tb_26 k [])) ∧ w0.grownBy w' none) (ex_cl (fun _ _ => by kernel_rfl) (arg1 h24_6)) ((mapText_any _ k okk w0 (hkB.gn Kp0.grown)).mono fun _ _ h => ⟨_, h.1, rfl, h.2⟩) F6.l ?_
    rintro v w1 ⟨rfl, G1⟩
    have B1_1 := B1_0.gn G1
    have Kp1 := Kp0.new G1
    have R_1 := R_0.gn G1
    intro a7 u7 h25_7
    have F7 := F6.pt u7
    obtain ⟨gs26_7, hgs26_7⟩ : ∃ g, w1.heap.size = g := ⟨_, rfl⟩
    have ne_1_s26_7 : g1 ≠ gs26_7 := by have := B1_1.lt; omega
    have ge_s26_7 : w00.heap.size ≤ gs26_7 := by have := Kp1.size; omega
    obtain ⟨w2, hr2, Bs26_7_2, G2, hs2⟩ := bs_run (op := Instr.buildSlice 85 1 #[(0, (.string (bs (tb_26 k []))))]) (n := 1) (T := 9) (cs := #[(.string (bs (tb_26 k [])))]) hgs26_7 (fun _ => by kernel_rfl)
    have B1_2 := B1_1.gn G2
    have Kp2 := Kp1.new G2
    have R_2 := R_1.gn G2
    refine wl_p (ex_bs (vs := #[(0, (.string (bs (tb_26 k []))))]) (by have e0 : a7.eval (.tmp 25) = (.string (bs (tb_26 k []))) := h25_7; simp only [List.map_toArray, List.map_cons, List.map_nil, e0]) hr2) F7.l fun a8 u8 (h26_8 : a8.tmps.getD 26 undef = (.slice (some ⟨gs26_7, 0, none⟩) 1 1)) => ?_
    have F8 := F7.pt u8
    obtain ⟨v3, w3, hr3, R_3, G3⟩ := R_2.push (ty := 85) (n := 1) (c := 1) [(tb_26 k [])] Bs26_7_2 rfl Kp2.size (by first | (simp only [List.length_append, List.length_cons, List.length_nil]; omega) | omega)
    have B1_3 := B1_2.row R_2 (by decide) G3
    have Kp3 := Kp2.row R_2 (Nat.le_refl _) G3
    have h22_8 := u8.w (u7.w (u6.w (u5.w h22_4)))
    refine wl_p (ex_app h22_8 h26_8 hr3) F8.l fun a9 u9 (h27_9 : a9.tmps.getD 27 undef = v3) => ?_
    have F9 := F8.pt u9
    refine wl_p (ex_as h27_9) F9.l fun a10 u10 h3_10 => ?_
    have F10 := F9.pt u10
    have h1_10 := u10.w (u9.w (u8.w (u7.w (u6.w (u5.w h1_4)))))
    exact hK _ _ ⟨F10, h1_10, B1_3, ⟨_, _, h3_10, R_3, by simp [hL, optT], by first | (simp only [List.length_append, List.length_cons, List.length_nil]; omega) | omega⟩, Kp3, hg1⟩
theorem li_date (ok : SegOk s) (hn20 : n ≤ 20) (hJ : JL 68 w00 g1 53 #[(.string s.title), (.string s.uri), (.int .i64 s.e), (.int .i64 s.li), (.int .i64 s.off), (pto kp), (pto mp), (.bool s.disc), (.string s.date)] L n a0 w0) (hK : ∀ a' w', JL 68 w00 g1 53 #[(.string s.title), (.string s.uri), (.int .i64 s.e), (.int .i64 s.li), (.int .i64 s.off), (pto kp), (pto mp), (.bool s.disc), (.string s.date)] (L ++ (if strNe s.date ⟨#[]⟩ = true then [35, 69, 88, 84, 45, 88, 45, 80, 82, 79, 71, 82, 65, 77, 45, 68, 65, 84, 69, 45, 84, 73, 77, 69, 58] ++ s.date.data.toList ++ [10] else [])) (n + 1) a' w' → Q .normal a' w') : (cat [1, 1, 1, 1, 1, 0] liB).wp Tryz.prog Q a0 w0 := by
  obtain ⟨F0, h1_0, B1_0, ⟨v0, ls, h3_0, R_0, hL, hn⟩, Kp0, hg1⟩ := hJ
  have hdt : s.date.data.toList.length ≤ 40 := ok.1.date
  change Code.wp _ (Code.seq (Code.region _ _ _) (Code.cond _ _ _)) _ _ _
  refine wp_seq ?_
  refine rg_list ?_
  refine wl_p (ex_fb 8 h1_0) F0.l fun a1 u1 h28_1 => ?_
  have F1 := F0.pt u1
  refine wl_p (ex_le (v := (.string s.date)) h28_1 (B1_0.cell 8)) F1.l fun a2 u2 h29_2 => ?_
  have F2 := F1.pt u2
  refine wl_p (ex_bin (vy := (.string { data := #[] })) (v := (.bool (strNe s.date ⟨#[]⟩))) h29_2 rfl (bo_strne' s.date ⟨#[]⟩ _)) F2.l fun a3 u3 h30_3 => ?_
  have F3 := F2.pt u3
  change Code.wp _ _ _ _ _
  rcases Bool.eq_false_or_eq_true ((strNe s.date ⟨#[]⟩)) with hq | hq
  · refine wp_cond_true (h30_3.trans (by rw [hq])) ?_
    refine rg_list ?_
    have h3_3 := u3.w (u2.w (u1.w h3_0))
    refine wl_p (ex_mv h3_3) F3.l fun a4 u4 h31_4 => ?_
    have F4 := F3.pt u4
    have h1_4 := u4.w (u3.w (u2.w (u1.w h1_0)))
    refine wl_p (ex_fb 8 h1_4) F4.l fun a5 u5 h32_5 => ?_
    have F5 := F4.pt u5
    refine wl_p (ex_le (v := (.string s.date)) h32_5 (B1_0.cell 8)) F5.l fun a6 u6 h33_6 => ?_
    have F6 := F5.pt u6
    refine wl_p (ex_bin (vx := (.string { data := #[35, 69, 88, 84, 45, 88, 45, 80, 82, 79, 71, 82, 65, 77, 45, 68, 65, 84, 69, 45, 84, 73, 77, 69, 58] })) (v := (.string (bs (([35, 69, 88, 84, 45, 88, 45, 80, 82, 79, 71, 82, 65, 77, 45, 68, 65, 84, 69, 45, 84, 73, 77, 69, 58] : List UInt8) ++ s.date.data.toList)))) rfl h33_6 (bo_adds ([35, 69, 88, 84, 45, 88, 45, 80, 82, 79, 71, 82, 65, 77, 45, 68, 65, 84, 69, 45, 84, 73, 77, 69, 58] : List UInt8) s.date.data.toList _ (by first | (simp only [List.length_append, List.length_cons, List.length_nil]; omega) | omega))) F6.l fun a7 u7 h34_7 => ?_
    have F7 := F6.pt u7
    refine wl_p (ex_bin (vy := (.string { data := #[10] })) (v := (.string (bs ((([35, 69, 88, 84, 45, 88, 45, 80, 82, 79, 71, 82, 65, 77, 45, 68, 65, 84, 69, 45, 84, 73, 77, 69, 58] : List UInt8) ++ s.date.data.toList) ++ ([10] : List UInt8))))) h34_7 rfl (bo_adds (([35, 69, 88, 84, 45, 88, 45, 80, 82, 79, 71, 82, 65, 77, 45, 68, 65, 84, 69, 45, 84, 73, 77, 69, 58] : List UInt8) ++ s.date.data.toList) ([10] : List UInt8) _ (by first | (simp only [List.length_append, List.length_cons, List.length_nil]; omega) | omega))) F7.l fun a8 u8 h35_8 => ?_
    have F8 := F7.pt u8
    obtain ⟨gs36_8, hgs36_8⟩ : ∃ g, w0.heap.size = g := ⟨_, rfl⟩
    have ne_1_s36_8 : g1 ≠ gs36_8 := by have := B1_0.lt; omega
    have ge_s36_8 : w00.heap.size ≤ gs36_8 := by have := Kp0.size; omega
    obtain ⟨w1, hr1, Bs36_8_1, G1, hs1⟩ := bs_run (op := Instr.buildSlice 85 1 #[(0, (.string (bs ((([35, 69, 88, 84, 45, 88, 45, 80, 82, 79, 71, 82, 65, 77, 45, 68, 65, 84, 69, 45, 84, 73, 77, 69, 58] : List UInt8) ++ s.date.data.toList) ++ ([10] : List UInt8)))))]) (n := 1) (T := 9) (cs := #[(.string (bs ((([35, 69, 88, 84, 45, 88, 45, 80, 82, 79, 71, 82, 65, 77, 45, 68, 65, 84, 69, 45, 84, 73, 77, 69, 58] : List UInt8) ++ s.date.data.toList) ++ ([10] : List UInt8))))]) hgs36_8 (fun _ => by kernel_rfl)
    have B1_1 := B1_0.gn G1
    have Kp1 := Kp0.new G1
    have R_1 := R_0.gn G1
    refine wl_p (ex_bs (vs := #[(0, (.string (bs ((([35, 69, 88, 84, 45, 88, 45, 80, 82, 79, 71, 82, 65, 77, 45, 68, 65, 84, 69, 45, 84, 73, 77, 69, 58] : List UInt8) ++ s.date.data.toList) ++ ([10] : List UInt8)))))]) (by have e0 : a8.eval (.tmp 35) = (.string (bs ((([35, 69, 88, 84, 45, 88, 45, 80, 82, 79, 71, 82, 65, 77, 45, 68, 65, 84, 69, 45, 84, 73, 77, 69, 58] : List UInt8) ++ s.date.data.toList) ++ ([10] : List UInt8)))) := h35_8; simp only [List.map_toArray, List.map_cons, List.map_nil, e0]) hr1) F8.l fun a9 u9 (h36_9 : a9.tmps.getD 36 undef = (.slice (some ⟨gs36_8, 0, none⟩) 1 1)) => ?_
    have F9 := F8.pt u9
    obtain ⟨v2, w2, hr2, R_2, G2⟩ := R_1.push (ty := 85) (n := 1) (c := 1) [((([35, 69, 88, 84, 45, 88, 45, 80, 82, 79, 71, 82, 65, 77, 45, 68, 65, 84, 69, 45, 84, 73, 77, 69, 58] : List UInt8) ++ s.date.data.toList) ++ ([10] : List UInt8))] Bs36_8_1 rfl Kp1.size (by first | (simp only [List.length_append, List.length_cons, List.length_nil]; omega) | omega)
    have B1_2 := B1_1.row R_1 (by decide) G2
    have Kp2 := Kp1.row R_1 (Nat.le_refl _) G2
    have h31_9 := u9.w (u8.w (u7.w (u6.w (u5.w h31_4))))
    refine wl_p (ex_app h31_9 h36_9 hr2) F9.l fun a10 u10 (h37_10 : a10.tmps.getD 37 undef = v2) => ?_
    have F10 := F9.pt u10
    refine wl_p (ex_as h37_10) F10.l fun a11 u11 h3_11 => ?_
    have F11 := F10.pt u11
    have h1_11 := u11.w (u10.w (u9.w (u8.w (u7.w (u6.w (u5.w h1_4))))))
    exact hK _ _ ⟨F11, h1_11, B1_2, ⟨_, _, h3_11, R_2, by simp [hL, hq], by first | (simp only [List.length_append, List.length_cons, List.length_nil]; omega) | omega⟩, Kp2, hg1⟩
  · refine wp_cond_false (h30_3.trans (by rw [hq])) ?_
    refine wp_skip ?_
    have h1_3 := u3.w (u2.w (u1.w h1_0))
    have h3_3 := u3.w (u2.w (u1.w h3_0))
    exact hK _ _ ⟨F3, h1_3, B1_0, ⟨_, _, h3_3, R_0, by simp [hL, hq], by first | (simp only [List.length_append, List.length_cons, List.length_nil]; omega) | omega⟩, Kp0, hg1⟩
theorem li_part (ok : SegOk s) (hn20 : n ≤ 20) (hJ : JL 68 w00 g1 53 #[(.string s.title), (.string s.uri), (.int .i64 s.e), (.int .i64 s.li), (.int .i64 s.off), (pto kp), (pto mp), (.bool s.disc), (.string s.date)] L n a0 w0) (hK : ∀ a' w', JL 68 w00 g1 53 #[(.string s.title), (.string s.uri), (.int .i64 s.e), (.int .i64 s.li), (.int .i64 s.off), (pto kp), (pto mp), (.bool s.disc), (.string s.date)] (L ++ (if 0 < s.li then [35, 69, 88, 84, 45, 88, 45, 66, 89, 84, 69, 82, 65, 78, 71, 69, 58] ++ Lib.decDigits s.li ++ [64] ++ Lib.decDigits s.off ++ [10] else [])) (n + 1) a' w' → Q .normal a' w') : (cat [1, 1, 1, 1, 1, 1, 0] liB).wp Tryz.prog Q a0 w0 := by
  obtain ⟨F0, h1_0, B1_0, ⟨v0, ls, h3_0, R_0, hL, hn⟩, Kp0, hg1⟩ := hJ
  have hli := ok.1.li
  have hoff := ok.1.off
  change Code.wp _ (Code.seq (Code.region _ _ _) (Code.cond _ _ _)) _ _ _
  refine wp_seq ?_
  refine rg_list ?_
  refine wl_p (ex_fb 3 h1_0) F0.l fun a1 u1 h38_1 => ?_
  have F1 := F0.pt u1
  refine wl_p (ex_le (v := (.int .i64 s.li)) h38_1 (B1_0.cell 3)) F1.l fun a2 u2 h39_2 => ?_
  have F2 := F1.pt u2
  refine wl_p (ex_bin (vy := (.int .i64 0)) (v := (.bool (decide (0 < s.li)))) h39_2 rfl (bo_gtn2 s.li _)) F2.l fun a3 u3 h40_3 => ?_
  have F3 := F2.pt u3
  change Code.wp _ _ _ _ _
  by_cases hq : 0 < s.li
  · refine wp_cond_true (h40_3.trans (by rw [decide_eq_true hq])) ?_
    obtain ⟨w1, hw1⟩ : ∃ w, w = w0.drew := ⟨_, rfl⟩
    have G1 : w0.grownBy w1 none := hw1 ▸ grown_drew _
    have B1_1 := B1_0.gn G1
    have Kp1 := Kp0.new G1
    have R_1 := R_0.gn G1
    refine rg_tree (S := fun w' => Blk w' g1 53 #[(.string s.title), (.string s.uri), (.int .i64 s.e), (.int .i64 s.li), (.int .i64 s.off), (pto kp), (pto mp), (.bool s.disc), (.string s.date)]) [] 16 hw1 ⟨rfl, by decide⟩ hmix (by kernel_rfl) (by kernel_rfl) (B1_1) ?_
    have h3_3 := u3.w (u2.w (u1.w h3_0))
    refine tree_take (j := 0) rfl (by kernel_rfl) (by kernel_rfl) (by kernel_rfl) (fun w hw => ex_mv h3_3) (B1_1) F3.l fun a4 u4 h41_4 => ?_
    have F4 := F3.pt u4
    have h1_4 := u4.w (u3.w (u2.w (u1.w h1_0)))
    refine tree_take (j := 1) rfl (by kernel_rfl) (by kernel_rfl) (by kernel_rfl) (fun w hw => ex_fb 3 h1_4) (B1_1) F4.l fun a5 u5 h42_5 => ?_
    have F5 := F4.pt u5
    refine tree_take (j := 2) rfl (by kernel_rfl) (by kernel_rfl) (by kernel_rfl) (fun w hw => ex_le (v := (.int .i64 s.li)) h42_5 (hw.cell 3)) (B1_1) F5.l fun a6 u6 h43_6 => ?_
    have F6 := F5.pt u6
    refine tree_take (j := 3) rfl (by kernel_rfl) (by kernel_rfl) (by kernel_rfl) (fun w hw => ex_conv (vx := (.int .i64 s.li)) (v := (.int .u64 s.li)) h43_6 (cv_2_25 s.li (by have := hli; omega) _)) (B1_1) F6.l fun a7 u7 h44_7 => ?_
    have F7 := F6.pt u7
    have h1_7 := u7.w (u6.w (u5.w h1_4))
    refine tree_take (j := 7) rfl (by kernel_rfl) (by kernel_rfl) (by kernel_rfl) (fun w hw => ex_fb 4 h1_7) (B1_1) F7.l fun a8 u8 h48_8 => ?_
    have F8 := F7.pt u8
    refine tree_take (j := 8) rfl (by kernel_rfl) (by kernel_rfl) (by kernel_rfl) (fun w hw => ex_le (v := (.int .i64 s.off)) h48_8 (hw.cell 4)) (B1_1) F8.l fun a9 u9 h49_9 => ?_
    have F9 := F8.pt u9
    refine tree_take (j := 9) rfl (by kernel_rfl) (by kernel_rfl) (by kernel_rfl) (fun w hw => ex_conv (vx := (.int .i64 s.off)) (v := (.int .u64 s.off)) h49_9 (cv_2_25 s.off (by have := hoff; omega) _)) (B1_1) F9.l fun a10 u10 h50_10 => ?_
    have F10 := F9.pt u10
    refine tree1 (j := 4) (by kernel_rfl) ?_
    have h44_10 := u10.w (u9.w (u8.w h44_7))
    refine tk_cl (args := #[(.int .u64 s.li)]) (R := fun v w' => v = .string (bs (Lib.decDigits s.li)) ∧ w1 = w') rfl (ex_cl (fun _ _ => by kernel_rfl) (arg1 h44_10)) ((decimal_any (s.li : Int) w1 (by omega) (by have := hli; omega)).mono fun _ _ h => ⟨_, h.1.trans (by rw [Int.toNat_natCast]), rfl, h.2⟩) F10.l ?_
    rintro v w' ⟨rfl, rfl⟩
    refine ⟨B1_1, ?_⟩
    intro a11 u11 h45_11
    have F11 := F10.pt u11
    have hds_li := dl20 s.li (by have := hli; omega)
    refine tree_take (j := 5) rfl (by kernel_rfl) (by kernel_rfl) (by kernel_rfl) (fun w hw => ex_bin (vx := (.string { data := #[35, 69, 88, 84, 45, 88, 45, 66, 89, 84, 69, 82, 65, 78, 71, 69, 58] })) (v := (.string (bs (([35, 69, 88, 84, 45, 88, 45, 66, 89, 84, 69, 82, 65, 78, 71, 69, 58] : List UInt8) ++ (Lib.decDigits s.li))))) rfl h45_11 (bo_adds ([35, 69, 88, 84, 45, 88, 45, 66, 89, 84, 69, 82, 65, 78, 71, 69, 58] : List UInt8) (Lib.decDigits s.li) _ (by first | (simp only [List.length_append, List.length_cons, List.length_nil]; omega) | omega))) (B1_1) F11.l fun a12 u12 h46_12 => ?_
    have F12 := F11.pt u12
    refine tree_take (j := 6) rfl (by kernel_rfl) (by kernel_rfl) (by kernel_rfl) (fun w hw => ex_bin (vy := (.string { data := #[64] })) (v := (.string (bs ((([35, 69, 88, 84, 45, 88, 45, 66, 89, 84, 69, 82, 65, 78, 71, 69, 58] : List UInt8) ++ (Lib.decDigits s.li)) ++ ([64] : List UInt8))))) h46_12 rfl (bo_adds (([35, 69, 88, 84, 45, 88, 45, 66, 89, 84, 69, 82, 65, 78, 71, 69, 58] : List UInt8) ++ (Lib.decDigits s.li)) ([64] : List UInt8) _ (by first | (simp only [List.length_append, List.length_cons, List.length_nil]; omega) | omega))) (B1_1) F12.l fun a13 u13 h47_13 => ?_
    have F13 := F12.pt u13
    refine tree1 (j := 10) (by kernel_rfl) ?_
    have h50_13 := u13.w (u12.w (u11.w h50_10))
    refine tk_cl (args := #[(.int .u64 s.off)]) (R := fun v w' => v = .string (bs (Lib.decDigits s.off)) ∧ w1 = w') rfl (ex_cl (fun _ _ => by kernel_rfl) (arg1 h50_13)) ((decimal_any (s.off : Int) w1 (by omega) (by have := hoff; omega)).mono fun _ _ h => ⟨_, h.1.trans (by rw [Int.toNat_natCast]), rfl, h.2⟩) F13.l ?_
    rintro v w' ⟨rfl, rfl⟩
    refine ⟨B1_1, ?_⟩
    intro a14 u14 h51_14
    have F14 := F13.pt u14
    have hds_off := dl20 s.off (by have := hoff; omega)
    refine tree_take (j := 11) rfl (by kernel_rfl) (by kernel_rfl) (by kernel_rfl) (fun w hw => ex_bin (v := (.string (bs (((([35, 69, 88, 84, 45, 88, 45, 66, 89, 84, 69, 82, 65, 78, 71, 69, 58] : List UInt8) ++ (Lib.decDigits s.li)) ++ ([64] : List UInt8)) ++ (Lib.decDigits s.off))))) (u14.w h47_13) h51_14 (bo_adds ((([35, 69, 88, 84, 45, 88, 45, 66, 89, 84, 69, 82, 65, 78, 71, 69, 58] : List UInt8) ++ (Lib.decDigits s.li)) ++ ([64] : List UInt8)) (Lib.decDigits s.off) _ (by first | (simp only [List.length_append, List.length_cons, List.length_nil]; omega) | omega))) (B1_1) F14.l fun a15 u15 h52_15 => ?_
    have F15 := F14.pt u15
    refine tree_take (j := 12) rfl (by kernel_rfl) (by kernel_rfl) (by kernel_rfl) (fun w hw => ex_bin (vy := (.string { data := #[10] })) (v := (.string (bs ((((([35, 69, 88, 84, 45, 88, 45, 66, 89, 84, 69, 82, 65, 78, 71, 69, 58] : List UInt8) ++ (Lib.decDigits s.li)) ++ ([64] : List UInt8)) ++ (Lib.decDigits s.off)) ++ ([10] : List UInt8))))) h52_15 rfl (bo_adds (((([35, 69, 88, 84, 45, 88, 45, 66, 89, 84, 69, 82, 65, 78, 71, 69, 58] : List UInt8) ++ (Lib.decDigits s.li)) ++ ([64] : List UInt8)) ++ (Lib.decDigits s.off)) ([10] : List UInt8) _ (by first | (simp only [List.length_append, List.length_cons, List.length_nil]; omega) | omega))) (B1_1) F15.l fun a16 u16 h53_16 => ?_
    have F16 := F15.pt u16
    refine tree1 (j := 13) (by kernel_rfl) ?_
    obtain ⟨gs54_16, hgs54_16⟩ : ∃ g, w1.heap.size = g := ⟨_, rfl⟩
    have ne_1_s54_16 : g1 ≠ gs54_16 := by have := B1_1.lt; omega
    have ge_s54_16 : w00.heap.size ≤ gs54_16 := by have := Kp1.size; omega
    obtain ⟨w2, hr2, Bs54_16_2, G2, hs2⟩ := bs_run (op := Instr.buildSlice 85 1 #[(0, (.string (bs ((((([35, 69, 88, 84, 45, 88, 45, 66, 89, 84, 69, 82, 65, 78, 71, 69, 58] : List UInt8) ++ (Lib.decDigits s.li)) ++ ([64] : List UInt8)) ++ (Lib.decDigits s.off)) ++ ([10] : List UInt8)))))]) (n := 1) (T := 9) (cs := #[(.string (bs ((((([35, 69, 88, 84, 45, 88, 45, 66, 89, 84, 69, 82, 65, 78, 71, 69, 58] : List UInt8) ++ (Lib.decDigits s.li)) ++ ([64] : List UInt8)) ++ (Lib.decDigits s.off)) ++ ([10] : List UInt8))))]) hgs54_16 (fun _ => by kernel_rfl)
    have B1_2 := B1_1.gn G2
    have Kp2 := Kp1.new G2
    have R_2 := R_1.gn G2
    refine tk_p rfl (ex_bs (vs := #[(0, (.string (bs ((((([35, 69, 88, 84, 45, 88, 45, 66, 89, 84, 69, 82, 65, 78, 71, 69, 58] : List UInt8) ++ (Lib.decDigits s.li)) ++ ([64] : List UInt8)) ++ (Lib.decDigits s.off)) ++ ([10] : List UInt8)))))]) (by have e0 : a16.eval (.tmp 53) = (.string (bs ((((([35, 69, 88, 84, 45, 88, 45, 66, 89, 84, 69, 82, 65, 78, 71, 69, 58] : List UInt8) ++ (Lib.decDigits s.li)) ++ ([64] : List UInt8)) ++ (Lib.decDigits s.off)) ++ ([10] : List UInt8)))) := h53_16; simp only [List.map_toArray, List.map_cons, List.map_nil, e0]) hr2) (B1_2) F16.l fun a17 u17 (h54_17 : a17.tmps.getD 54 undef = (.slice (some ⟨gs54_16, 0, none⟩) 1 1)) => ?_
    have F17 := F16.pt u17
    refine tree1 (j := 14) (by kernel_rfl) ?_
    obtain ⟨v3, w3, hr3, R_3, G3⟩ := R_2.push (ty := 85) (n := 1) (c := 1) [((((([35, 69, 88, 84, 45, 88, 45, 66, 89, 84, 69, 82, 65, 78, 71, 69, 58] : List UInt8) ++ (Lib.decDigits s.li)) ++ ([64] : List UInt8)) ++ (Lib.decDigits s.off)) ++ ([10] : List UInt8))] Bs54_16_2 rfl Kp2.size (by first | (simp only [List.length_append, List.length_cons, List.length_nil]; omega) | omega)
    have B1_3 := B1_2.row R_2 (by decide) G3
    have Kp3 := Kp2.row R_2 (Nat.le_refl _) G3
    have h41_17 := u17.w (u16.w (u15.w (u14.w (u13.w (u12.w (u11.w (u10.w (u9.w (u8.w (u7.w (u6.w (u5.w h41_4))))))))))))
    refine tk_p rfl (ex_app h41_17 h54_17 hr3) (B1_3) F17.l fun a18 u18 (h55_18 : a18.tmps.getD 55 undef = v3) => ?_
    have F18 := F17.pt u18
    refine tree_take (j := 15) rfl (by kernel_rfl) (by kernel_rfl) (by kernel_rfl) (fun w hw => ex_as h55_18) (B1_3) F18.l fun a19 u19 h3_19 => ?_
    have F19 := F18.pt u19
    refine tree0 (by kernel_rfl) ?_
    have h1_19 := u19.w (u18.w (u17.w (u16.w (u15.w (u14.w (u13.w (u12.w (u11.w (u10.w (u9.w (u8.w h1_7)))))))))))
    exact hK _ _ ⟨F19, h1_19, B1_3, ⟨_, _, h3_19, R_3, by simp [hL, hq], by first | (simp only [List.length_append, List.length_cons, List.length_nil]; omega) | omega⟩, Kp3, hg1⟩
  · refine wp_cond_false (h40_3.trans (by rw [decide_eq_false hq])) ?_
    refine wp_skip ?_
    have h1_3 := u3.w (u2.w (u1.w h1_0))
    have h3_3 := u3.w (u2.w (u1.w h3_0))
    exact hK _ _ ⟨F3, h1_3, B1_0, ⟨_, _, h3_3, R_0, by simp [hL, hq], by first | (simp only [List.length_append, List.length_cons, List.length_nil]; omega) | omega⟩, Kp0, hg1⟩
theorem li_end (ok : SegOk s) (hn20 : n ≤ 20) (hJ : JL 68 w00 g1 53 #[(.string s.title), (.string s.uri), (.int .i64 s.e), (.int .i64 s.li), (.int .i64 s.off), (pto kp), (pto mp), (.bool s.disc), (.string s.date)] L n a0 w0) : (cat [1, 1, 1, 1, 1, 1, 1] liB).wp Tryz.prog (fun e a w => bodyPost Tryz.prog Tryz.f28 (fun e w' => ∃ v ls, e = .returned v ∧ TRow w' w00.heap.size v ls ∧ ls.flatten = L ++ ([35, 69, 88, 84, 73, 78, 70, 58] ++ sec3 s.e ++ [44] ++ s.title.data.toList ++ [10]) ∧ ls.length ≤ 30 ∧ w00.grownBy w' none) e a w) a0 w0 := by
  obtain ⟨F0, h1_0, B1_0, ⟨v0, ls, h3_0, R_0, hL, hn⟩, Kp0, hg1⟩ := hJ
  have htt : s.title.data.toList.length ≤ 40 := ok.1.title
  have hse := ok.2
  change Code.wp _ (Code.seq _ _) _ _ _
  refine wp_seq ?_
  obtain ⟨w1, hw1⟩ : ∃ w, w = w0.drew := ⟨_, rfl⟩
  have G1 : w0.grownBy w1 none := hw1 ▸ grown_drew _
  have B1_1 := B1_0.gn G1
  have Kp1 := Kp0.new G1
  have R_1 := R_0.gn G1
  refine rg_tree (S := fun w' => Blk w' g1 53 #[(.string s.title), (.string s.uri), (.int .i64 s.e), (.int .i64 s.li), (.int .i64 s.off), (pto kp), (pto mp), (.bool s.disc), (.string s.date)]) [] 13 hw1 ⟨rfl, by decide⟩ hmix (by kernel_rfl) (by kernel_rfl) (B1_1) ?_
  refine tree_take (j := 0) rfl (by kernel_rfl) (by kernel_rfl) (by kernel_rfl) (fun w hw => ex_mv h3_0) (B1_1) F0.l fun a1 u1 h56_1 => ?_
  have F1 := F0.pt u1
  refine tree_take (j := 1) rfl (by kernel_rfl) (by kernel_rfl) (by kernel_rfl) (fun w hw => ex_fb 2 (u1.w h1_0)) (B1_1) F1.l fun a2 u2 h57_2 => ?_
  have F2 := F1.pt u2
  refine tree_take (j := 2) rfl (by kernel_rfl) (by kernel_rfl) (by kernel_rfl) (fun w hw => ex_le (v := (.int .i64 s.e)) h57_2 (hw.cell 2)) (B1_1) F2.l fun a3 u3 h58_3 => ?_
  have F3 := F2.pt u3
  have h1_3 := u3.w (u2.w (u1.w h1_0))
  refine tree_take (j := 6) rfl (by kernel_rfl) (by kernel_rfl) (by kernel_rfl) (fun w hw => ex_fb 0 h1_3) (B1_1) F3.l fun a4 u4 h62_4 => ?_
  have F4 := F3.pt u4
  refine tree_take (j := 7) rfl (by kernel_rfl) (by kernel_rfl) (by kernel_rfl) (fun w hw => ex_le (v := (.string s.title)) h62_4 (hw.cell 0)) (B1_1) F4.l fun a5 u5 h63_5 => ?_
  have F5 := F4.pt u5
  refine tree1 (j := 3) (by kernel_rfl) ?_
  refine tk_cl (args := #[(.int .i64 s.e)]) (R := fun v w' => v = .string (bs (sec3 s.e)) ∧ w1 = w') rfl (ex_cl (fun _ _ => by kernel_rfl) (arg1 (u5.w (u4.w h58_3)))) ((seconds_any s.e (by omega) w1).mono fun _ _ h => ⟨_, h.1, rfl, h.2⟩) F5.l ?_
  rintro v w' ⟨rfl, rfl⟩
  refine ⟨B1_1, ?_⟩
  intro a6 u6 h59_6
  have F6 := F5.pt u6
  have hsec := sec3_len7 s.e (by omega)
  refine tree_take (j := 4) rfl (by kernel_rfl) (by kernel_rfl) (by kernel_rfl) (fun w hw => ex_bin (vx := (.string { data := #[35, 69, 88, 84, 73, 78, 70, 58] })) (v := (.string (bs (([35, 69, 88, 84, 73, 78, 70, 58] : List UInt8) ++ (sec3 s.e))))) rfl h59_6 (bo_adds ([35, 69, 88, 84, 73, 78, 70, 58] : List UInt8) (sec3 s.e) _ (by first | (simp only [List.length_append, List.length_cons, List.length_nil]; omega) | omega))) (B1_1) F6.l fun a7 u7 h60_7 => ?_
  have F7 := F6.pt u7
  refine tree_take (j := 5) rfl (by kernel_rfl) (by kernel_rfl) (by kernel_rfl) (fun w hw => ex_bin (vy := (.string { data := #[44] })) (v := (.string (bs ((([35, 69, 88, 84, 73, 78, 70, 58] : List UInt8) ++ (sec3 s.e)) ++ ([44] : List UInt8))))) h60_7 rfl (bo_adds (([35, 69, 88, 84, 73, 78, 70, 58] : List UInt8) ++ (sec3 s.e)) ([44] : List UInt8) _ (by first | (simp only [List.length_append, List.length_cons, List.length_nil]; omega) | omega))) (B1_1) F7.l fun a8 u8 h61_8 => ?_
  have F8 := F7.pt u8
  have h63_8 := u8.w (u7.w (u6.w h63_5))
  refine tree_take (j := 8) rfl (by kernel_rfl) (by kernel_rfl) (by kernel_rfl) (fun w hw => ex_bin (v := (.string (bs (((([35, 69, 88, 84, 73, 78, 70, 58] : List UInt8) ++ (sec3 s.e)) ++ ([44] : List UInt8)) ++ s.title.data.toList)))) h61_8 h63_8 (bo_adds ((([35, 69, 88, 84, 73, 78, 70, 58] : List UInt8) ++ (sec3 s.e)) ++ ([44] : List UInt8)) s.title.data.toList _ (by first | (simp only [List.length_append, List.length_cons, List.length_nil]; omega) | omega))) (B1_1) F8.l fun a9 u9 h64_9 => ?_
  have F9 := F8.pt u9
  refine tree_take (j := 9) rfl (by kernel_rfl) (by kernel_rfl) (by kernel_rfl) (fun w hw => ex_bin (vy := (.string { data := #[10] })) (v := (.string (bs ((((([35, 69, 88, 84, 73, 78, 70, 58] : List UInt8) ++ (sec3 s.e)) ++ ([44] : List UInt8)) ++ s.title.data.toList) ++ ([10] : List UInt8))))) h64_9 rfl (bo_adds (((([35, 69, 88, 84, 73, 78, 70, 58] : List UInt8) ++ (sec3 s.e)) ++ ([44] : List UInt8)) ++ s.title.data.toList) ([10] : List UInt8) _ (by first | (simp only [List.length_append, List.length_cons, List.length_nil]; omega) | omega))) (B1_1) F9.l fun a10 u10 h65_10 => ?_
  have F10 := F9.pt u10
  refine tree1 (j := 10) (by kernel_rfl) ?_
  obtain ⟨gs66_10, hgs66_10⟩ : ∃ g, w1.heap.size = g := ⟨_, rfl⟩
  have ne_1_s66_10 : g1 ≠ gs66_10 := by have := B1_1.lt; omega
  have ge_s66_10 : w00.heap.size ≤ gs66_10 := by have := Kp1.size; omega
  obtain ⟨w2, hr2, Bs66_10_2, G2, hs2⟩ := bs_run (op := Instr.buildSlice 85 1 #[(0, (.string (bs ((((([35, 69, 88, 84, 73, 78, 70, 58] : List UInt8) ++ (sec3 s.e)) ++ ([44] : List UInt8)) ++ s.title.data.toList) ++ ([10] : List UInt8)))))]) (n := 1) (T := 9) (cs := #[(.string (bs ((((([35, 69, 88, 84, 73, 78, 70, 58] : List UInt8) ++ (sec3 s.e)) ++ ([44] : List UInt8)) ++ s.title.data.toList) ++ ([10] : List UInt8))))]) hgs66_10 (fun _ => by kernel_rfl)
  have B1_2 := B1_1.gn G2
  have Kp2 := Kp1.new G2
  have R_2 := R_1.gn G2
  refine tk_p rfl (ex_bs (vs := #[(0, (.string (bs ((((([35, 69, 88, 84, 73, 78, 70, 58] : List UInt8) ++ (sec3 s.e)) ++ ([44] : List UInt8)) ++ s.title.data.toList) ++ ([10] : List UInt8)))))]) (by have e0 : a10.eval (.tmp 65) = (.string (bs ((((([35, 69, 88, 84, 73, 78, 70, 58] : List UInt8) ++ (sec3 s.e)) ++ ([44] : List UInt8)) ++ s.title.data.toList) ++ ([10] : List UInt8)))) := h65_10; simp only [List.map_toArray, List.map_cons, List.map_nil, e0]) hr2) (B1_2) F10.l fun a11 u11 (h66_11 : a11.tmps.getD 66 undef = (.slice (some ⟨gs66_10, 0, none⟩) 1 1)) => ?_
  have F11 := F10.pt u11
  refine tree1 (j := 11) (by kernel_rfl) ?_
  obtain ⟨v3, w3, hr3, R_3, G3⟩ := R_2.push (ty := 85) (n := 1) (c := 1) [((((([35, 69, 88, 84, 73, 78, 70, 58] : List UInt8) ++ (sec3 s.e)) ++ ([44] : List UInt8)) ++ s.title.data.toList) ++ ([10] : List UInt8))] Bs66_10_2 rfl Kp2.size (by first | (simp only [List.length_append, List.length_cons, List.length_nil]; omega) | omega)
  have B1_3 := B1_2.row R_2 (by decide) G3
  have Kp3 := Kp2.row R_2 (Nat.le_refl _) G3
  have h56_11 := u11.w (u10.w (u9.w (u8.w (u7.w (u6.w (u5.w (u4.w (u3.w (u2.w h56_1)))))))))
  refine tk_p rfl (ex_app h56_11 h66_11 hr3) (B1_3) F11.l fun a12 u12 (h67_12 : a12.tmps.getD 67 undef = v3) => ?_
  have F12 := F11.pt u12
  refine tree_take (j := 12) rfl (by kernel_rfl) (by kernel_rfl) (by kernel_rfl) (fun w hw => ex_as h67_12) (B1_3) F12.l fun a13 u13 h2_13 => ?_
  have F13 := F12.pt u13
  refine tree0 (by kernel_rfl) ?_
  refine wp_ret ?_
  try simp only [Exit.then, Exit.inBlock]
  exact bodyPost_ret (v := v3) ((results_tmp rfl _ _ _).trans (by rw [h2_13])) F13.defers ⟨_, _, rfl, R_3, by simp [hL], by first | (simp only [List.length_append, List.length_cons, List.length_nil]; omega) | omega, Kp3.grown⟩
end
theorem lines_any {s : SegD} {kp mp : Option Nat} {w0 : World} (ok : SegOk s) (hk : SKey w0 kp s.key) (hm : SMap w0 mp s.map) : Calls Tryz.prog 28 #[.agg (ssegC s kp mp)] w0 fun e w' => ∃ v ls, e = .returned v ∧ TRow w' w0.heap.size v ls ∧ ls.flatten = linesX s ∧ ls.length ≤ 30 ∧ w0.grownBy w' none := by
  refine calls_of_wp Tryz.func28 rfl ?_
  generalize hA : Act.mk _ _ = a0
  have F0 : Fz 68 a0 := by subst hA; exact ⟨by simp [Tryz.ntmps28], rfl⟩
  have h0_0 : a0.tmps.getD 0 undef = (.agg #[(.string s.title), (.string s.uri), (.int .i64 s.e), (.int .i64 s.li), (.int .i64 s.off), (pto kp), (pto mp), (.bool s.disc), (.string s.date)]) := by subst hA; exact fr_arg rfl
  clear hA
  have Kp0 := Kp.refl [] w0
  change Code.wp _ (Code.seq _ _) _ _ _
  refine wp_seq ?_
  refine rg_list ?_
  obtain ⟨g1, hg1⟩ : ∃ g, w0.heap.size = g := ⟨_, rfl⟩
  have ge_1 : w0.heap.size ≤ g1 := by have := Kp0.size; omega
  obtain ⟨w1, hr1, B1_1, G1, hs1⟩ := al_run (op := Instr.box 53 (.agg #[(.string s.title), (.string s.uri), (.int .i64 s.e), (.int .i64 s.li), (.int .i64 s.off), (pto kp), (pto mp), (.bool s.disc), (.string s.date)])) (T := 53) (cs := #[(.string s.title), (.string s.uri), (.int .i64 s.e), (.int .i64 s.li), (.int .i64 s.off), (pto kp), (pto mp), (.bool s.disc), (.string s.date)]) hg1 (fun _ => by kernel_rfl)
  have Kp1 := Kp0.new G1
  refine wl_p (ex_bx h0_0 hr1) F0.l fun a1 u1 (h1_1 : a1.tmps.getD 1 undef = (.pointer (some ⟨g1, 0, none⟩))) => ?_
  have F1 := F0.pt u1
  refine wl_p (ex_as (v := (.slice none 0 0)) rfl) F1.l fun a2 u2 h2_2 => ?_
  have F2 := F1.pt u2
  change Code.wp _ (Code.seq _ _) _ _ _
  refine wp_seq ?_
  refine rg_list ?_
  obtain ⟨gs4_2, hgs4_2⟩ : ∃ g, w1.heap.size = g := ⟨_, rfl⟩
  have ne_1_s4_2 : g1 ≠ gs4_2 := by have := B1_1.lt; omega
  have ge_s4_2 : w0.heap.size ≤ gs4_2 := by have := Kp1.size; omega
  obtain ⟨w2, hr2, Bs4_2_2, G2, hs2⟩ := bs_run (op := Instr.buildSlice 85 0 #[]) (n := 0) (T := 9) (cs := #[]) hgs4_2 (fun _ => by kernel_rfl)
  have B1_2 := B1_1.gn G2
  have Kp2 := Kp1.new G2
  refine wl_p (ex_bs (vs := #[]) (by simp) hr2) F2.l fun a3 u3 (h4_3 : a3.tmps.getD 4 undef = (.slice (some ⟨gs4_2, 0, none⟩) 0 0)) => ?_
  have F3 := F2.pt u3
  refine wl_p (ex_as h4_3) F3.l fun a4 u4 h3_4 => ?_
  have F4 := F3.pt u4
  change Code.wp _ _ _ _ _
  have h1_4 := u4.w (u3.w (u2.w h1_1))
  have hJ : JL 68 w0 g1 53 #[(.string s.title), (.string s.uri), (.int .i64 s.e), (.int .i64 s.li), (.int .i64 s.off), (pto kp), (pto mp), (.bool s.disc), (.string s.date)] [] 0 a4 w2 := ⟨F4, h1_4, B1_2, ⟨_, [], h3_4, TRow.zero Bs4_2_2 ge_s4_2, rfl, Nat.le_refl _⟩, Kp2, ge_1⟩
  refine wp_seq (li_key hk (by omega) hJ fun a w hJ => (?_ : Code.wp _ _ _ _ _))
  refine wp_seq (li_disc (by omega) hJ fun a w hJ => (?_ : Code.wp _ _ _ _ _))
  refine wp_seq (li_map hm (by omega) hJ fun a w hJ => (?_ : Code.wp _ _ _ _ _))
  refine wp_seq (li_date ok (by omega) hJ fun a w hJ => (?_ : Code.wp _ _ _ _ _))
  refine wp_seq (li_part ok (by omega) hJ fun a w hJ => (?_ : Code.wp _ _ _ _ _))
  have h := li_end ok (by omega) hJ
  simp only [List.nil_append] at h
  exact h
section
variable {w00 w0 w : World} {s : SegD} {m : MedD} {kp mp : Option Nat} {key : Option KeyD} {map : Option MapD} {sv : Value} {g1 n : Nat} {a0 : Act} {L : List UInt8} {Q : Exit → Act → World → Prop}
theorem he_key (hk : SKey w00 kp key) (hn20 : n ≤ 20) (hJ : JL 83 w00 g1 44 #[(.int .i64 m.ver), (.int .i64 m.td), (.int .u64 m.seq), (.int .u64 m.dsq), (.int .i64 m.ty), (.int .i64 m.st), (.bool m.pre), (.bool m.ifr), (.bool m.clo), (pto kp), (pto mp), sv] L n a0 w0) (hK : ∀ a' w', JL 83 w00 g1 44 #[(.int .i64 m.ver), (.int .i64 m.td), (.int .u64 m.seq), (.int .u64 m.dsq), (.int .i64 m.ty), (.int .i64 m.st), (.bool m.pre), (.bool m.ifr), (.bool m.clo), (pto kp), (pto mp), sv] (L ++ optT tb_6 key []) (n + 1) a' w' → Q .normal a' w') : (cat [1, 1, 0] heB).wp Tryz.prog Q a0 w0 := by
  cases hk with
  | nil =>
    obtain ⟨F0, h1_0, B1_0, ⟨v0, ls, h3_0, R_0, hL, hn⟩, Kp0, hg1⟩ := hJ
    change Code.wp _ (Code.seq (Code.region _ _ _) (Code.cond _ _ _)) _ _ _
    refine wp_seq ?_
    refine rg_list ?_
    refine wl_p (ex_fb 9 h1_0) F0.l fun a1 u1 h6_1 => ?_
    have F1 := F0.pt u1
    refine wl_p (ex_le (v := (.pointer none)) h6_1 (B1_0.cell 9)) F1.l fun a2 u2 h7_2 => ?_
    have F2 := F1.pt u2
    refine wl_p (ex_bin (vy := (.pointer none)) (v := (.bool false)) h7_2 rfl (by kernel_rfl)) F2.l fun a3 u3 h8_3 => ?_
    have F3 := F2.pt u3
    change Code.wp _ _ _ _ _
    refine wp_cond_false h8_3 ?_
    refine wp_skip ?_
    have h1_3 := u3.w (u2.w (u1.w h1_0))
    have h3_3 := u3.w (u2.w (u1.w h3_0))
    exact hK _ _ ⟨F3, h1_3, B1_0, ⟨_, _, h3_3, R_0, by simp [hL, optT], by first | (simp only [List.length_append, List.length_cons, List.length_nil]; omega) | omega⟩, Kp0, hg1⟩
  | @mk q k hkB okk =>
    obtain ⟨F0, h1_0, B1_0, ⟨v0, ls, h3_0, R_0, hL, hn⟩, Kp0, hg1⟩ := hJ
    change Code.wp _ (Code.seq (Code.region _ _ _) (Code.cond _ _ _)) _ _ _
    refine wp_seq ?_
    refine rg_list ?_
    refine wl_p (ex_fb 9 h1_0) F0.l fun a1 u1 h6_1 => ?_
    have F1 := F0.pt u1
    refine wl_p (ex_le (v := (.pointer (some ⟨q, 0, none⟩))) h6_1 (B1_0.cell 9)) F1.l fun a2 u2 h7_2 => ?_
    have F2 := F1.pt u2
    refine wl_p (ex_bin (vy := (.pointer none)) (v := (.bool true)) h7_2 rfl (by kernel_rfl)) F2.l fun a3 u3 h8_3 => ?_
    have F3 := F2.pt u3
    change Code.wp _ _ _ _ _
    refine wp_cond_true h8_3 ?_
    refine rg_list ?_
    have h3_3 := u3.w (u2.w (u1.w h3_0))
    refine wl_p (ex_mv h3_3) F3.l fun a4 u4 h9_4 => ?_
    have F4 := F3.pt u4
    have h1_4 := u4.w (u3.w (u2.w (u1.w h1_0)))
    refine wl_p (ex_fb 9 h1_4) F4.l fun a5 u5 h10_5 => ?_
    have F5 := F4.pt u5
    refine wl_p (ex_le (v := (.pointer (some ⟨q, 0, none⟩))) h10_5 (B1_0.cell 9)) F5.l fun a6 u6 h11_6 => ?_
    have F6 := F5.pt u6
    refine wl_cl (args := #[(.pointer (some ⟨q, 0, none⟩))]) (R := fun v w' => v = .string (bs (tb_6 k [])) ∧ w0 = w') (ex_cl (fun _ _ => by kernel_rfl) (arg1 h11_6)) ((keyText_any _ k okk w0 (hkB.gn Kp0.grown)).mono fun _ _ h => ⟨_, h.1, rfl, h.2⟩) F6.l ?_
    rintro v w' ⟨rfl, rfl⟩
    intro a7 u7 h12_7
    have F7 := F6.pt u7
    obtain ⟨gs13_7, hgs13_7⟩ : ∃ g, w0.heap.size = g := ⟨_, rfl⟩
    have ne_1_s13_7 : g1 ≠ gs13_7 := by have := B1_0.lt; omega
    have ge_s13_7 : w00.heap.size ≤ gs13_7 := by have := Kp0.size; omega
    obtain ⟨w1, hr1, Bs13_7_1, G1, hs1⟩ := bs_run (op := Instr.buildSlice 85 1 #[(0, (.string (bs (tb_6 k []))))]) (n := 1) (T := 9) (cs := #[(.string (bs (tb_6 k [])))]) hgs13_7 (fun _ => by kernel_rfl)
    have B1_1 := B1_0.gn G1
    have Kp1 := Kp0.new G1
    have R_1 := R_0.gn G1
    refine wl_p (ex_bs (vs := #[(0, (.string (bs (tb_6 k []))))]) (by have e0 : a7.eval (.tmp 12) = (.string (bs (tb_6 k []))) := h12_7; simp only [List.map_toArray, List.map_cons, List.map_nil, e0]) hr1) F7.l fun a8 u8 (h13_8 : a8.tmps.getD 13 undef = (.slice (some ⟨gs13_7, 0, none⟩) 1 1)) => ?_
    have F8 := F7.pt u8
    obtain ⟨v2, w2, hr2, R_2, G2⟩ := R_1.push (ty := 85) (n := 1) (c := 1) [(tb_6 k [])] Bs13_7_1 rfl Kp1.size (by first | (simp only [List.length_append, List.length_cons, List.length_nil]; omega) | omega)
    have B1_2 := B1_1.row R_1 (by decide) G2
    have Kp2 := Kp1.row R_1 (Nat.le_refl _) G2
    have h9_8 := u8.w (u7.w (u6.w (u5.w h9_4)))
    refine wl_p (ex_app h9_8 h13_8 hr2) F8.l fun a9 u9 (h14_9 : a9.tmps.getD 14 undef = v2) => ?_
    have F9 := F8.pt u9
    refine wl_p (ex_as h14_9) F9.l fun a10 u10 h3_10 => ?_
    have F10 := F9.pt u10
    have h1_10 := u10.w (u9.w (u8.w (u7.w (u6.w (u5.w h1_4)))))
    exact hK _ _ ⟨F10, h1_10, B1_2, ⟨_, _, h3_10, R_2, by simp [hL, optT], by first | (simp only [List.length_append, List.length_cons, List.length_nil]; omega) | omega⟩, Kp2, hg1⟩
theorem he_map (hm : SMap w00 mp map) (hn20 : n ≤ 20) (hJ : JL 83 w00 g1 44 #[(.int .i64 m.ver), (.int .i64 m.td), (.int .u64 m.seq), (.int .u64 m.dsq), (.int .i64 m.ty), (.int .i64 m.st), (.bool m.pre), (.bool m.ifr), (.bool m.clo), (pto kp), (pto mp), sv] L n a0 w0) (hK : ∀ a' w', JL 83 w00 g1 44 #[(.int .i64 m.ver), (.int .i64 m.td), (.int .u64 m.seq), (.int .u64 m.dsq), (.int .i64 m.ty), (.int .i64 m.st), (.bool m.pre), (.bool m.ifr), (.bool m.clo), (pto kp), (pto mp), sv] (L ++ optT tb_26 map []) (n + 1) a' w' → Q .normal a' w') : (cat [1, 1, 1, 0] heB).wp Tryz.prog Q a0 w0 := by
  cases hm with
  | nil =>
    obtain ⟨F0, h1_0, B1_0, ⟨v0, ls, h3_0, R_0, hL, hn⟩, Kp0, hg1⟩ := hJ
    change Code.wp _ (Code.seq (Code.region _ _ _) (Code.cond _ _ _)) _ _ _
    refine wp_seq ?_
    refine rg_list ?_
    refine wl_p (ex_fb 10 h1_0) F0.l fun a1 u1 h15_1 => ?_
    have F1 := F0.pt u1
    refine wl_p (ex_le (v := (.pointer none)) h15_1 (B1_0.cell 10)) F1.l fun a2 u2 h16_2 => ?_
    have F2 := F1.pt u2
    refine wl_p (ex_bin (vy := (.pointer none)) (v := (.bool false)) h16_2 rfl (by kernel_rfl)) F2.l fun a3 u3 h17_3 => ?_
    have F3 := F2.pt u3
    change Code.wp _ _ _ _ _
    refine wp_cond_false h17_3 ?_
    refine wp_skip ?_
    have h1_3 := u3.w (u2.w (u1.w h1_0))
    have h3_3 := u3.w (u2.w (u1.w h3_0))
    exact hK _ _ ⟨F3, h1_3, B1_0, ⟨_, _, h3_3, R_0, by simp [hL, optT], by first | (simp only [List.length_append, List.length_cons, List.length_nil]; omega) | omega⟩, Kp0, hg1⟩
  | @mk q k hkB okk =>
    obtain ⟨F0, h1_0, B1_0, ⟨v0, ls, h3_0, R_0, hL, hn⟩, Kp0, hg1⟩ := hJ
    change Code.wp _ (Code.seq (Code.region _ _ _) (Code.cond _ _ _)) _ _ _
    refine wp_seq ?_
    refine rg_list ?_
    refine wl_p (ex_fb 10 h1_0) F0.l fun a1 u1 h15_1 => ?_
    have F1 := F0.pt u1
    refine wl_p (ex_le (v := (.pointer (some ⟨q, 0, none⟩))) h15_1 (B1_0.cell 10)) F1.l fun a2 u2 h16_2 => ?_
    have F2 := F1.pt u2
    refine wl_p (ex_bin (vy := (.pointer none)) (v := (.bool true)) h16_2 rfl (by kernel_rfl)) F2.l fun a3 u3 h17_3 => ?_
    have F3 := F2.pt u3
    change Code.wp _ _ _ _ _
    refine wp_cond_true h17_3 ?_
    refine rg_list ?_
    have h3_3 := u3.w (u2.w (u1.w h3_0))
    refine wl_p (ex_mv h3_3) F3.l fun a4 u4 h18_4 => ?_
    have F4 := F3.pt u4
    have h1_4 := u4.w (u3.w (u2.w (u1.w h1_0)))
    refine wl_p (ex_fb 10 h1_4) F4.l fun a5 u5 h19_5 => ?_
    have F5 := F4.pt u5
    refine wl_p (ex_le (v := (.pointer (some ⟨q, 0, none⟩))) h19_5 (B1_0.cell 10)) F5.l fun a6 u6 h20_6 => ?_
    have F6 := F5.pt u6
    refine wl_cl (args := #[(.pointer (some ⟨q, 0, none⟩))]) (R := fun v w' => v = .string (bs (tb_26 k [])) ∧ w0.grownBy w' none) (ex_cl (fun _ _ => by kernel_rfl) (arg1 h20_6)) ((mapText_any _ k okk w0 (hkB.gn Kp0.grown)).mono fun _ _ h => ⟨_, h.1, rfl, h.2⟩) F6.l ?_
    rintro v w1 ⟨rfl, G1⟩
    have B1_1 := B1_0.gn G1
    have Kp1 := Kp0.new G1
    have R_1 := R_0.gn G1
    intro a7 u7 h21_7
    have F7 := F6.pt u7
    obtain ⟨gs22_7, hgs22_7⟩ : ∃ g, w1.heap.size = g := ⟨_, rfl⟩
    have ne_1_s22_7 : g1 ≠ gs22_7 := by have := B1_1.lt; omega
    have ge_s22_7 : w00.heap.size ≤ gs22_7 := by have := Kp1.size; omega
    obtain ⟨w2, hr2, Bs22_7_2, G2, hs2⟩ := bs_run (op := Instr.buildSlice 85 1 #[(0, (.string (bs (tb_26 k []))))]) (n := 1) (T := 9) (cs := #[(.string (bs (tb_26 k [])))]) hgs22_7 (fun _ => by kernel_rfl)
    have B1_2 := B1_1.gn G2
    have Kp2 := Kp1.new G2
    have R_2 := R_1.gn G2
    refine wl_p (ex_bs (vs := #[(0, (.string (bs (tb_26 k []))))]) (by have e0 : a7.eval (.tmp 21) = (.string (bs (tb_26 k []))) := h21_7; simp only [List.map_toArray, List.map_cons, List.map_nil, e0]) hr2) F7.l fun a8 u8 (h22_8 : a8.tmps.getD 22 undef = (.slice (some ⟨gs22_7, 0, none⟩) 1 1)) => ?_
    have F8 := F7.pt u8
    obtain ⟨v3, w3, hr3, R_3, G3⟩ := R_2.push (ty := 85) (n := 1) (c := 1) [(tb_26 k [])] Bs22_7_2 rfl Kp2.size (by first | (simp only [List.length_append, List.length_cons, List.length_nil]; omega) | omega)
    have B1_3 := B1_2.row R_2 (by decide) G3
    have Kp3 := Kp2.row R_2 (Nat.le_refl _) G3
    have h18_8 := u8.w (u7.w (u6.w (u5.w h18_4)))
    refine wl_p (ex_app h18_8 h22_8 hr3) F8.l fun a9 u9 (h23_9 : a9.tmps.getD 23 undef = v3) => ?_
    have F9 := F8.pt u9
    refine wl_p (ex_as h23_9) F9.l fun a10 u10 h3_10 => ?_
    have F10 := F9.pt u10
    have h1_10 := u10.w (u9.w (u8.w (u7.w (u6.w (u5.w h1_4)))))
    exact hK _ _ ⟨F10, h1_10, B1_3, ⟨_, _, h3_10, R_3, by simp [hL, optT], by first | (simp only [List.length_append, List.length_cons, List.length_nil]; omega) | omega⟩, Kp3, hg1⟩
theorem he_type (hty : m.ty = 0 ∨ m.ty = 2) (hn20 : n ≤ 20) (hJ : JL 83 w00 g1 44 #[(.int .i64 m.ver), (.int .i64 m.td), (.int .u64 m.seq), (.int .u64 m.dsq), (.int .i64 m.ty), (.int .i64 m.st), (.bool m.pre), (.bool m.ifr), (.bool m.clo), (pto kp), (pto mp), sv] L n a0 w0) (hK : ∀ a' w', JL 83 w00 g1 44 #[(.int .i64 m.ver), (.int .i64 m.td), (.int .u64 m.seq), (.int .u64 m.dsq), (.int .i64 m.ty), (.int .i64 m.st), (.bool m.pre), (.bool m.ifr), (.bool m.clo), (pto kp), (pto mp), sv] (L ++ (if m.ty = 2 then [35, 69, 88, 84, 45, 88, 45, 80, 76, 65, 89, 76, 73, 83, 84, 45, 84, 89, 80, 69, 58, 86, 79, 68, 10] else [])) (n + 1) a' w' → Q .normal a' w') : (cat [1, 1, 1, 1, 0] heB).wp Tryz.prog Q a0 w0 := by
  rcases hty with hty | hty
  · obtain ⟨F0, h1_0, B1_0, ⟨v0, ls, h3_0, R_0, hL, hn⟩, Kp0, hg1⟩ := hJ
    change Code.wp _ (Code.seq (Code.region _ _ _) (Code.block _ _)) _ _ _
    refine wp_seq ?_
    refine rg_list ?_
    refine wl_p (ex_fb 4 h1_0) F0.l fun a1 u1 h24_1 => ?_
    have F1 := F0.pt u1
    refine wl_p (ex_le (v := (.int .i64 m.ty)) h24_1 (B1_0.cell 4)) F1.l fun a2 u2 h25_2 => ?_
    have F2 := F1.pt u2
    change Code.wp _ _ _ _ _
    refine wp_block ?_
    refine wp_seq ?_
    refine rg_list ?_
    refine wl_p (ex_bin (vy := (.int .i64 1)) (v := (.bool false)) h25_2 rfl ((bo_eqi m.ty 1 _).trans (by rw [hty]; rfl))) F2.l fun a3 u3 h27_3 => ?_
    have F3 := F2.pt u3
    refine wl_p (ex_as h27_3) F3.l fun a4 u4 h26_4 => ?_
    have F4 := F3.pt u4
    change Code.wp _ _ _ _ _
    refine wp_cond_false h26_4 ?_
    refine wp_seq ?_
    refine rg_list ?_
    refine wl_p (ex_bin (vy := (.int .i64 2)) (v := (.bool false)) (u4.w (u3.w h25_2)) rfl ((bo_eqi m.ty 2 _).trans (by rw [hty]; rfl))) F4.l fun a5 u5 h32_5 => ?_
    have F5 := F4.pt u5
    refine wl_p (ex_as h32_5) F5.l fun a6 u6 h31_6 => ?_
    have F6 := F5.pt u6
    change Code.wp _ _ _ _ _
    refine wp_cond_false h31_6 ?_
    refine wp_skip ?_
    have h1_6 := u6.w (u5.w (u4.w (u3.w (u2.w (u1.w h1_0)))))
    have h3_6 := u6.w (u5.w (u4.w (u3.w (u2.w (u1.w h3_0)))))
    exact hK _ _ ⟨F6, h1_6, B1_0, ⟨_, _, h3_6, R_0, by simp [hL, hty], by first | (simp only [List.length_append, List.length_cons, List.length_nil]; omega) | omega⟩, Kp0, hg1⟩
  · obtain ⟨F0, h1_0, B1_0, ⟨v0, ls, h3_0, R_0, hL, hn⟩, Kp0, hg1⟩ := hJ
    change Code.wp _ (Code.seq (Code.region _ _ _) (Code.block _ _)) _ _ _
    refine wp_seq ?_
    refine rg_list ?_
    refine wl_p (ex_fb 4 h1_0) F0.l fun a1 u1 h24_1 => ?_
    have F1 := F0.pt u1
    refine wl_p (ex_le (v := (.int .i64 m.ty)) h24_1 (B1_0.cell 4)) F1.l fun a2 u2 h25_2 => ?_
    have F2 := F1.pt u2
    change Code.wp _ _ _ _ _
    refine wp_block ?_
    refine wp_seq ?_
    refine rg_list ?_
    refine wl_p (ex_bin (vy := (.int .i64 1)) (v := (.bool false)) h25_2 rfl ((bo_eqi m.ty 1 _).trans (by rw [hty]; rfl))) F2.l fun a3 u3 h27_3 => ?_
    have F3 := F2.pt u3
    refine wl_p (ex_as h27_3) F3.l fun a4 u4 h26_4 => ?_
    have F4 := F3.pt u4
    change Code.wp _ _ _ _ _
    refine wp_cond_false h26_4 ?_
    refine wp_seq ?_
    refine rg_list ?_
    refine wl_p (ex_bin (vy := (.int .i64 2)) (v := (.bool true)) (u4.w (u3.w h25_2)) rfl ((bo_eqi m.ty 2 _).trans (by rw [hty]; rfl))) F4.l fun a5 u5 h32_5 => ?_
    have F5 := F4.pt u5
    refine wl_p (ex_as h32_5) F5.l fun a6 u6 h31_6 => ?_
    have F6 := F5.pt u6
    change Code.wp _ _ _ _ _
    refine wp_cond_true h31_6 ?_
    refine rg_list ?_
    have h3_6 := u6.w (u5.w (u4.w (u3.w (u2.w (u1.w h3_0)))))
    refine wl_p (ex_mv h3_6) F6.l fun a7 u7 h33_7 => ?_
    have F7 := F6.pt u7
    obtain ⟨gs34_7, hgs34_7⟩ : ∃ g, w0.heap.size = g := ⟨_, rfl⟩
    have ne_1_s34_7 : g1 ≠ gs34_7 := by have := B1_0.lt; omega
    have ge_s34_7 : w00.heap.size ≤ gs34_7 := by have := Kp0.size; omega
    obtain ⟨w1, hr1, Bs34_7_1, G1, hs1⟩ := bs_run (op := Instr.buildSlice 85 1 #[(0, (.string { data := #[35, 69, 88, 84, 45, 88, 45, 80, 76, 65, 89, 76, 73, 83, 84, 45, 84, 89, 80, 69, 58, 86, 79, 68, 10] }))]) (n := 1) (T := 9) (cs := #[(.string { data := #[35, 69, 88, 84, 45, 88, 45, 80, 76, 65, 89, 76, 73, 83, 84, 45, 84, 89, 80, 69, 58, 86, 79, 68, 10] })]) hgs34_7 (fun _ => by kernel_rfl)
    have B1_1 := B1_0.gn G1
    have Kp1 := Kp0.new G1
    have R_1 := R_0.gn G1
    refine wl_p (ex_bs (vs := #[(0, (.string { data := #[35, 69, 88, 84, 45, 88, 45, 80, 76, 65, 89, 76, 73, 83, 84, 45, 84, 89, 80, 69, 58, 86, 79, 68, 10] }))]) (by simp only [List.map_toArray, List.map_cons, List.map_nil, ev_const]) hr1) F7.l fun a8 u8 (h34_8 : a8.tmps.getD 34 undef = (.slice (some ⟨gs34_7, 0, none⟩) 1 1)) => ?_
    have F8 := F7.pt u8
    obtain ⟨v2, w2, hr2, R_2, G2⟩ := R_1.push (ty := 85) (n := 1) (c := 1) [([35, 69, 88, 84, 45, 88, 45, 80, 76, 65, 89, 76, 73, 83, 84, 45, 84, 89, 80, 69, 58, 86, 79, 68, 10] : List UInt8)] Bs34_7_1 rfl Kp1.size (by first | (simp only [List.length_append, List.length_cons, List.length_nil]; omega) | omega)
    have B1_2 := B1_1.row R_1 (by decide) G2
    have Kp2 := Kp1.row R_1 (Nat.le_refl _) G2
    refine wl_p (ex_app (u8.w h33_7) h34_8 hr2) F8.l fun a9 u9 (h35_9 : a9.tmps.getD 35 undef = v2) => ?_
    have F9 := F8.pt u9
    refine wl_p (ex_as h35_9) F9.l fun a10 u10 h3_10 => ?_
    have F10 := F9.pt u10
    have h1_10 := u10.w (u9.w (u8.w (u7.w (u6.w (u5.w (u4.w (u3.w (u2.w (u1.w h1_0)))))))))
    exact hK _ _ ⟨F10, h1_10, B1_2, ⟨_, _, h3_10, R_2, by simp [hL, hty], by first | (simp only [List.length_append, List.length_cons, List.length_nil]; omega) | omega⟩, Kp2, hg1⟩
theorem he_nums (okm : m.Ok) (hn20 : n ≤ 20) (hJ : JL 83 w00 g1 44 #[(.int .i64 m.ver), (.int .i64 m.td), (.int .u64 m.seq), (.int .u64 m.dsq), (.int .i64 m.ty), (.int .i64 m.st), (.bool m.pre), (.bool m.ifr), (.bool m.clo), (pto kp), (pto mp), sv] L n a0 w0) (hK : ∀ a' w', JL 83 w00 g1 44 #[(.int .i64 m.ver), (.int .i64 m.td), (.int .u64 m.seq), (.int .u64 m.dsq), (.int .i64 m.ty), (.int .i64 m.st), (.bool m.pre), (.bool m.ifr), (.bool m.clo), (pto kp), (pto mp), sv] (L ++ (([35, 69, 88, 84, 45, 88, 45, 77, 69, 68, 73, 65, 45, 83, 69, 81, 85, 69, 78, 67, 69, 58] ++ Lib.decDigits m.seq ++ [10]) ++ ([35, 69, 88, 84, 45, 88, 45, 84, 65, 82, 71, 69, 84, 68, 85, 82, 65, 84, 73, 79, 78, 58] ++ Lib.decDigits m.td ++ [10]))) (n + 2) a' w' → Q .normal a' w') : (cat [1, 1, 1, 1, 1, 0] heB).wp Tryz.prog Q a0 w0 := by
  change Code.wp _ (Code.region _ _ _) _ _ _
  obtain ⟨F0, h1_0, B1_0, ⟨v0, ls, h3_0, R_0, hL, hn⟩, Kp0, hg1⟩ := hJ
  obtain ⟨w1, hw1⟩ : ∃ w, w = w0.drew := ⟨_, rfl⟩
  have G1 : w0.grownBy w1 none := hw1 ▸ grown_drew _
  have B1_1 := B1_0.gn G1
  have Kp1 := Kp0.new G1
  have R_1 := R_0.gn G1
  refine rg_tree (S := fun w' => Blk w' g1 44 #[(.int .i64 m.ver), (.int .i64 m.td), (.int .u64 m.seq), (.int .u64 m.dsq), (.int .i64 m.ty), (.int .i64 m.st), (.bool m.pre), (.bool m.ifr), (.bool m.clo), (pto kp), (pto mp), sv]) [] 15 hw1 ⟨rfl, by decide⟩ hmix (by kernel_rfl) (by kernel_rfl) (B1_1) ?_
  refine tree_take (j := 0) rfl (by kernel_rfl) (by kernel_rfl) (by kernel_rfl) (fun w hw => ex_mv h3_0) (B1_1) F0.l fun a1 u1 h36_1 => ?_
  have F1 := F0.pt u1
  refine tree_take (j := 1) rfl (by kernel_rfl) (by kernel_rfl) (by kernel_rfl) (fun w hw => ex_fb 2 (u1.w h1_0)) (B1_1) F1.l fun a2 u2 h37_2 => ?_
  have F2 := F1.pt u2
  refine tree_take (j := 2) rfl (by kernel_rfl) (by kernel_rfl) (by kernel_rfl) (fun w hw => ex_le (v := (.int .u64 m.seq)) h37_2 (hw.cell 2)) (B1_1) F2.l fun a3 u3 h38_3 => ?_
  have F3 := F2.pt u3
  have h1_3 := u3.w (u2.w (u1.w h1_0))
  refine tree_take (j := 6) rfl (by kernel_rfl) (by kernel_rfl) (by kernel_rfl) (fun w hw => ex_fb 1 h1_3) (B1_1) F3.l fun a4 u4 h42_4 => ?_
  have F4 := F3.pt u4
  refine tree_take (j := 7) rfl (by kernel_rfl) (by kernel_rfl) (by kernel_rfl) (fun w hw => ex_le (v := (.int .i64 m.td)) h42_4 (hw.cell 1)) (B1_1) F4.l fun a5 u5 h43_5 => ?_
  have F5 := F4.pt u5
  refine tree_take (j := 8) rfl (by kernel_rfl) (by kernel_rfl) (by kernel_rfl) (fun w hw => ex_conv (vx := (.int .i64 m.td)) (v := (.int .u64 m.td)) h43_5 (cv_3_25 m.td (by have := okm.td; omega) _)) (B1_1) F5.l fun a6 u6 h44_6 => ?_
  have F6 := F5.pt u6
  refine tree1 (j := 3) (by kernel_rfl) ?_
  have h38_6 := u6.w (u5.w (u4.w h38_3))
  refine tk_cl (args := #[(.int .u64 m.seq)]) (R := fun v w' => v = .string (bs (Lib.decDigits m.seq)) ∧ w1 = w') rfl (ex_cl (fun _ _ => by kernel_rfl) (arg1 h38_6)) ((decimal_any (m.seq : Int) w1 (by omega) (by have := okm.seq; omega)).mono fun _ _ h => ⟨_, h.1.trans (by rw [Int.toNat_natCast]), rfl, h.2⟩) F6.l ?_
  rintro v w' ⟨rfl, rfl⟩
  refine ⟨B1_1, ?_⟩
  intro a7 u7 h39_7
  have F7 := F6.pt u7
  have hdm_seq := dl20 m.seq (by have := okm.seq; omega)
  refine tree_take (j := 4) rfl (by kernel_rfl) (by kernel_rfl) (by kernel_rfl) (fun w hw => ex_bin (vx := (.string { data := #[35, 69, 88, 84, 45, 88, 45, 77, 69, 68, 73, 65, 45, 83, 69, 81, 85, 69, 78, 67, 69, 58] })) (v := (.string (bs (([35, 69, 88, 84, 45, 88, 45, 77, 69, 68, 73, 65, 45, 83, 69, 81, 85, 69, 78, 67, 69, 58] : List UInt8) ++ (Lib.decDigits m.seq))))) rfl h39_7 (bo_adds ([35, 69, 88, 84, 45, 88, 45, 77, 69, 68, 73, 65, 45, 83, 69, 81, 85, 69, 78, 67, 69, 58] : List UInt8) (Lib.decDigits m.seq) _ (by first | (simp only [List.length_append, List.length_cons, List.length_nil]; omega) | omega))) (B1_1) F7.l fun a8 u8 h40_8 => ?_
  have F8 := F7.pt u8
  refine tree_take (j := 5) rfl (by kernel_rfl) (by kernel_rfl) (by kernel_rfl) (fun w hw => ex_bin (vy := (.string { data := #[10] })) (v := (.string (bs ((([35, 69, 88, 84, 45, 88, 45, 77, 69, 68, 73, 65, 45, 83, 69, 81, 85, 69, 78, 67, 69, 58] : List UInt8) ++ (Lib.decDigits m.seq)) ++ ([10] : List UInt8))))) h40_8 rfl (bo_adds (([35, 69, 88, 84, 45, 88, 45, 77, 69, 68, 73, 65, 45, 83, 69, 81, 85, 69, 78, 67, 69, 58] : List UInt8) ++ (Lib.decDigits m.seq)) ([10] : List UInt8) _ (by first | (simp only [List.length_append, List.length_cons, List.length_nil]; omega) | omega))) (B1_1) F8.l fun a9 u9 h41_9 => ?_
  have F9 := F8.pt u9
  refine tree1 (j := 9) (by kernel_rfl) ?_
  have h44_9 := u9.w (u8.w (u7.w h44_6))
  refine tk_cl (args := #[(.int .u64 m.td)]) (R := fun v w' => v = .string (bs (Lib.decDigits m.td)) ∧ w1 = w') rfl (ex_cl (fun _ _ => by kernel_rfl) (arg1 h44_9)) ((decimal_any (m.td : Int) w1 (by omega) (by have := okm.td; omega)).mono fun _ _ h => ⟨_, h.1.trans (by rw [Int.toNat_natCast]), rfl, h.2⟩) F9.l ?_
  rintro v w' ⟨rfl, rfl⟩
  refine ⟨B1_1, ?_⟩
  intro a10 u10 h45_10
  have F10 := F9.pt u10
  have hdm_td := dl20 m.td (by have := okm.td; omega)
  refine tree_take (j := 10) rfl (by kernel_rfl) (by kernel_rfl) (by kernel_rfl) (fun w hw => ex_bin (vx := (.string { data := #[35, 69, 88, 84, 45, 88, 45, 84, 65, 82, 71, 69, 84, 68, 85, 82, 65, 84, 73, 79, 78, 58] })) (v := (.string (bs (([35, 69, 88, 84, 45, 88, 45, 84, 65, 82, 71, 69, 84, 68, 85, 82, 65, 84, 73, 79, 78, 58] : List UInt8) ++ (Lib.decDigits m.td))))) rfl h45_10 (bo_adds ([35, 69, 88, 84, 45, 88, 45, 84, 65, 82, 71, 69, 84, 68, 85, 82, 65, 84, 73, 79, 78, 58] : List UInt8) (Lib.decDigits m.td) _ (by first | (simp only [List.length_append, List.length_cons, List.length_nil]; omega) | omega))) (B1_1) F10.l fun a11 u11 h46_11 => ?_
  have F11 := F10.pt u11
  refine tree_take (j := 11) rfl (by kernel_rfl) (by kernel_rfl) (by kernel_rfl) (fun w hw => ex_bin (vy := (.string { data := #[10] })) (v := (.string (bs ((([35, 69, 88, 84, 45, 88, 45, 84, 65, 82, 71, 69, 84, 68, 85, 82, 65, 84, 73, 79, 78, 58] : List UInt8) ++ (Lib.decDigits m.td)) ++ ([10] : List UInt8))))) h46_11 rfl (bo_adds (([35, 69, 88, 84, 45, 88, 45, 84, 65, 82, 71, 69, 84, 68, 85, 82, 65, 84, 73, 79, 78, 58] : List UInt8) ++ (Lib.decDigits m.td)) ([10] : List UInt8) _ (by first | (simp only [List.length_append, List.length_cons, List.length_nil]; omega) | omega))) (B1_1) F11.l fun a12 u12 h47_12 => ?_
  have F12 := F11.pt u12
  refine tree1 (j := 12) (by kernel_rfl) ?_
  obtain ⟨gs48_12, hgs48_12⟩ : ∃ g, w1.heap.size = g := ⟨_, rfl⟩
  have ne_1_s48_12 : g1 ≠ gs48_12 := by have := B1_1.lt; omega
  have ge_s48_12 : w00.heap.size ≤ gs48_12 := by have := Kp1.size; omega
  obtain ⟨w2, hr2, Bs48_12_2, G2, hs2⟩ := bs_run (op := Instr.buildSlice 85 2 #[(0, (.string (bs ((([35, 69, 88, 84, 45, 88, 45, 77, 69, 68, 73, 65, 45, 83, 69, 81, 85, 69, 78, 67, 69, 58] : List UInt8) ++ (Lib.decDigits m.seq)) ++ ([10] : List UInt8))))), (1, (.string (bs ((([35, 69, 88, 84, 45, 88, 45, 84, 65, 82, 71, 69, 84, 68, 85, 82, 65, 84, 73, 79, 78, 58] : List UInt8) ++ (Lib.decDigits m.td)) ++ ([10] : List UInt8)))))]) (n := 2) (T := 9) (cs := #[(.string (bs ((([35, 69, 88, 84, 45, 88, 45, 77, 69, 68, 73, 65, 45, 83, 69, 81, 85, 69, 78, 67, 69, 58] : List UInt8) ++ (Lib.decDigits m.seq)) ++ ([10] : List UInt8)))), (.string (bs ((([35, 69, 88, 84, 45, 88, 45, 84, 65, 82, 71, 69, 84, 68, 85, 82, 65, 84, 73, 79, 78, 58] : List UInt8) ++ (Lib.decDigits m.td)) ++ ([10] : List UInt8))))]) hgs48_12 (fun _ => by kernel_rfl)
  have B1_2 := B1_1.gn G2
  have Kp2 := Kp1.new G2
  have R_2 := R_1.gn G2
  have h41_12 := u12.w (u11.w (u10.w h41_9))
  refine tk_p rfl (ex_bs (vs := #[(0, (.string (bs ((([35, 69, 88, 84, 45, 88, 45, 77, 69, 68, 73, 65, 45, 83, 69, 81, 85, 69, 78, 67, 69, 58] : List UInt8) ++ (Lib.decDigits m.seq)) ++ ([10] : List UInt8))))), (1, (.string (bs ((([35, 69, 88, 84, 45, 88, 45, 84, 65, 82, 71, 69, 84, 68, 85, 82, 65, 84, 73, 79, 78, 58] : List UInt8) ++ (Lib.decDigits m.td)) ++ ([10] : List UInt8)))))]) (by have e0 : a12.eval (.tmp 41) = (.string (bs ((([35, 69, 88, 84, 45, 88, 45, 77, 69, 68, 73, 65, 45, 83, 69, 81, 85, 69, 78, 67, 69, 58] : List UInt8) ++ (Lib.decDigits m.seq)) ++ ([10] : List UInt8)))) := h41_12; have e1 : a12.eval (.tmp 47) = (.string (bs ((([35, 69, 88, 84, 45, 88, 45, 84, 65, 82, 71, 69, 84, 68, 85, 82, 65, 84, 73, 79, 78, 58] : List UInt8) ++ (Lib.decDigits m.td)) ++ ([10] : List UInt8)))) := h47_12; simp only [List.map_toArray, List.map_cons, List.map_nil, e0, e1]) hr2) (B1_2) F12.l fun a13 u13 (h48_13 : a13.tmps.getD 48 undef = (.slice (some ⟨gs48_12, 0, none⟩) 2 2)) => ?_
  have F13 := F12.pt u13
  refine tree1 (j := 13) (by kernel_rfl) ?_
  obtain ⟨v3, w3, hr3, R_3, G3⟩ := R_2.push (ty := 85) (n := 2) (c := 2) [((([35, 69, 88, 84, 45, 88, 45, 77, 69, 68, 73, 65, 45, 83, 69, 81, 85, 69, 78, 67, 69, 58] : List UInt8) ++ (Lib.decDigits m.seq)) ++ ([10] : List UInt8)), ((([35, 69, 88, 84, 45, 88, 45, 84, 65, 82, 71, 69, 84, 68, 85, 82, 65, 84, 73, 79, 78, 58] : List UInt8) ++ (Lib.decDigits m.td)) ++ ([10] : List UInt8))] Bs48_12_2 rfl Kp2.size (by first | (simp only [List.length_append, List.length_cons, List.length_nil]; omega) | omega)
  have B1_3 := B1_2.row R_2 (by decide) G3
  have Kp3 := Kp2.row R_2 (Nat.le_refl _) G3
  have h36_13 := u13.w (u12.w (u11.w (u10.w (u9.w (u8.w (u7.w (u6.w (u5.w (u4.w (u3.w (u2.w h36_1)))))))))))
  refine tk_p rfl (ex_app h36_13 h48_13 hr3) (B1_3) F13.l fun a14 u14 (h49_14 : a14.tmps.getD 49 undef = v3) => ?_
  have F14 := F13.pt u14
  refine tree_take (j := 14) rfl (by kernel_rfl) (by kernel_rfl) (by kernel_rfl) (fun w hw => ex_as h49_14) (B1_3) F14.l fun a15 u15 h3_15 => ?_
  have F15 := F14.pt u15
  refine tree0 (by kernel_rfl) ?_
  have h1_15 := u15.w (u14.w (u13.w (u12.w (u11.w (u10.w (u9.w (u8.w (u7.w (u6.w (u5.w (u4.w h1_3)))))))))))
  exact hK _ _ ⟨F15, h1_15, B1_3, ⟨_, _, h3_15, R_3, by simp [hL], by first | (simp only [List.length_append, List.length_cons, List.length_nil]; omega) | omega⟩, Kp3, hg1⟩
theorem he_start (okm : m.Ok) (hn20 : n ≤ 20) (hJ : JL 83 w00 g1 44 #[(.int .i64 m.ver), (.int .i64 m.td), (.int .u64 m.seq), (.int .u64 m.dsq), (.int .i64 m.ty), (.int .i64 m.st), (.bool m.pre), (.bool m.ifr), (.bool m.clo), (pto kp), (pto mp), sv] L n a0 w0) (hK : ∀ a' w', JL 83 w00 g1 44 #[(.int .i64 m.ver), (.int .i64 m.td), (.int .u64 m.seq), (.int .u64 m.dsq), (.int .i64 m.ty), (.int .i64 m.st), (.bool m.pre), (.bool m.ifr), (.bool m.clo), (pto kp), (pto mp), sv] (L ++ (if 0 < m.st then [35, 69, 88, 84, 45, 88, 45, 83, 84, 65, 82, 84, 58, 84, 73, 77, 69, 45, 79, 70, 70, 83, 69, 84, 61] ++ shortT m.st ++ (if m.pre = true then [44, 80, 82, 69, 67, 73, 83, 69, 61, 89, 69, 83] else []) ++ [10] else [])) (n + 1) a' w' → Q .normal a' w') : (cat [1, 1, 1, 1, 1, 1, 0] heB).wp Tryz.prog Q a0 w0 := by
  obtain ⟨F0, h1_0, B1_0, ⟨v0, ls, h3_0, R_0, hL, hn⟩, Kp0, hg1⟩ := hJ
  change Code.wp _ (Code.seq (Code.region _ _ _) (Code.cond _ _ _)) _ _ _
  refine wp_seq ?_
  refine rg_list ?_
  refine wl_p (ex_fb 5 h1_0) F0.l fun a1 u1 h50_1 => ?_
  have F1 := F0.pt u1
  refine wl_p (ex_le (v := (.int .i64 m.st)) h50_1 (B1_0.cell 5)) F1.l fun a2 u2 h51_2 => ?_
  have F2 := F1.pt u2
  refine wl_p (ex_bin (vy := (.int .i64 0)) (v := (.bool (decide (0 < m.st)))) h51_2 rfl (bo_gtn3 m.st _)) F2.l fun a3 u3 h52_3 => ?_
  have F3 := F2.pt u3
  change Code.wp _ _ _ _ _
  by_cases hq : 0 < m.st
  · refine wp_cond_true (h52_3.trans (by rw [decide_eq_true hq])) ?_
    refine wp_seq ?_
    refine rg_list ?_
    have h1_3 := u3.w (u2.w (u1.w h1_0))
    refine wl_p (ex_fb 5 h1_3) F3.l fun a4 u4 h53_4 => ?_
    have F4 := F3.pt u4
    refine wl_p (ex_le (v := (.int .i64 m.st)) h53_4 (B1_0.cell 5)) F4.l fun a5 u5 h54_5 => ?_
    have F5 := F4.pt u5
    refine wl_cl (args := #[(.int .i64 m.st)]) (R := fun v w' => v = .string (bs (shortT m.st)) ∧ w0 = w') (ex_cl (fun _ _ => by kernel_rfl) (arg1 h54_5)) ((short_any m.st hq okm.st w0).mono fun _ _ h => ⟨_, h.1, rfl, h.2⟩) F5.l ?_
    rintro v w' ⟨rfl, rfl⟩
    intro a6 u6 h55_6
    have F6 := F5.pt u6
    have hsh := shortT_len m.st okm.st
    refine wl_p (ex_bin (vx := (.string { data := #[35, 69, 88, 84, 45, 88, 45, 83, 84, 65, 82, 84, 58, 84, 73, 77, 69, 45, 79, 70, 70, 83, 69, 84, 61] })) (v := (.string (bs (([35, 69, 88, 84, 45, 88, 45, 83, 84, 65, 82, 84, 58, 84, 73, 77, 69, 45, 79, 70, 70, 83, 69, 84, 61] : List UInt8) ++ (shortT m.st))))) rfl h55_6 (bo_adds ([35, 69, 88, 84, 45, 88, 45, 83, 84, 65, 82, 84, 58, 84, 73, 77, 69, 45, 79, 70, 70, 83, 69, 84, 61] : List UInt8) (shortT m.st) _ (by first | (simp only [List.length_append, List.length_cons, List.length_nil]; omega) | omega))) F6.l fun a7 u7 h56_7 => ?_
    have F7 := F6.pt u7
    refine wl_p (ex_as h56_7) F7.l fun a8 u8 h4_8 => ?_
    have F8 := F7.pt u8
    change Code.wp _ _ _ _ _
    refine wp_seq ?_
    refine wp_seq ?_
    refine rg_list ?_
    have h1_8 := u8.w (u7.w (u6.w (u5.w (u4.w h1_3))))
    refine wl_p (ex_fb 6 h1_8) F8.l fun a9 u9 h57_9 => ?_
    have F9 := F8.pt u9
    refine wl_p (ex_le (v := (.bool m.pre)) h57_9 (B1_0.cell 6)) F9.l fun a10 u10 h58_10 => ?_
    have F10 := F9.pt u10
    change Code.wp _ _ _ _ _
    rcases Bool.eq_false_or_eq_true (m.pre) with hp | hp
    · refine wp_cond_true (h58_10.trans (by rw [hp])) ?_
      refine rg_list ?_
      refine wl_p (ex_mv (u10.w (u9.w h4_8))) F10.l fun a11 u11 h59_11 => ?_
      have F11 := F10.pt u11
      refine wl_p (ex_bin (vy := (.string { data := #[44, 80, 82, 69, 67, 73, 83, 69, 61, 89, 69, 83] })) (v := (.string (bs ((([35, 69, 88, 84, 45, 88, 45, 83, 84, 65, 82, 84, 58, 84, 73, 77, 69, 45, 79, 70, 70, 83, 69, 84, 61] : List UInt8) ++ (shortT m.st)) ++ ([44, 80, 82, 69, 67, 73, 83, 69, 61, 89, 69, 83] : List UInt8))))) h59_11 rfl (bo_adds (([35, 69, 88, 84, 45, 88, 45, 83, 84, 65, 82, 84, 58, 84, 73, 77, 69, 45, 79, 70, 70, 83, 69, 84, 61] : List UInt8) ++ (shortT m.st)) ([44, 80, 82, 69, 67, 73, 83, 69, 61, 89, 69, 83] : List UInt8) _ (by first | (simp only [List.length_append, List.length_cons, List.length_nil]; omega) | omega))) F11.l fun a12 u12 h60_12 => ?_
      have F12 := F11.pt u12
      refine wl_p (ex_as h60_12) F12.l fun a13 u13 h4_13 => ?_
      have F13 := F12.pt u13
      change Code.wp _ (Code.region _ _ _) _ _ _
      refine rg_list ?_
      have h3_13 := u13.w (u12.w (u11.w (u10.w (u9.w (u8.w (u7.w (u6.w (u5.w (u4.w (u3.w (u2.w (u1.w h3_0))))))))))))
      refine wl_p (ex_mv h3_13) F13.l fun a14 u14 h61_14 => ?_
      have F14 := F13.pt u14
      refine wl_p (ex_mv (u14.w h4_13)) F14.l fun a15 u15 h62_15 => ?_
      have F15 := F14.pt u15
      refine wl_p (ex_bin (vy := (.string { data := #[10] })) (v := (.string (bs (((([35, 69, 88, 84, 45, 88, 45, 83, 84, 65, 82, 84, 58, 84, 73, 77, 69, 45, 79, 70, 70, 83, 69, 84, 61] : List UInt8) ++ (shortT m.st)) ++ ([44, 80, 82, 69, 67, 73, 83, 69, 61, 89, 69, 83] : List UInt8)) ++ ([10] : List UInt8))))) h62_15 rfl (bo_adds ((([35, 69, 88, 84, 45, 88, 45, 83, 84, 65, 82, 84, 58, 84, 73, 77, 69, 45, 79, 70, 70, 83, 69, 84, 61] : List UInt8) ++ (shortT m.st)) ++ ([44, 80, 82, 69, 67, 73, 83, 69, 61, 89, 69, 83] : List UInt8)) ([10] : List UInt8) _ (by first | (simp only [List.length_append, List.length_cons, List.length_nil]; omega) | omega))) F15.l fun a16 u16 h63_16 => ?_
      have F16 := F15.pt u16
      obtain ⟨gs64_16, hgs64_16⟩ : ∃ g, w0.heap.size = g := ⟨_, rfl⟩
      have ne_1_s64_16 : g1 ≠ gs64_16 := by have := B1_0.lt; omega
      have ge_s64_16 : w00.heap.size ≤ gs64_16 := by have := Kp0.size; omega
      obtain ⟨w1, hr1, Bs64_16_1, G1, hs1⟩ := bs_run (op := Instr.buildSlice 85 1 #[(0, (.string (bs (((([35, 69, 88, 84, 45, 88, 45, 83, 84, 65, 82, 84, 58, 84, 73, 77, 69, 45, 79, 70, 70, 83, 69, 84, 61] : List UInt8) ++ (shortT m.st)) ++ ([44, 80, 82, 69, 67, 73, 83, 69, 61, 89, 69, 83] : List UInt8)) ++ ([10] : List UInt8)))))]) (n := 1) (T := 9) (cs := #[(.string (bs (((([35, 69, 88, 84, 45, 88, 45, 83, 84, 65, 82, 84, 58, 84, 73, 77, 69, 45, 79, 70, 70, 83, 69, 84, 61] : List UInt8) ++ (shortT m.st)) ++ ([44, 80, 82, 69, 67, 73, 83, 69, 61, 89, 69, 83] : List UInt8)) ++ ([10] : List UInt8))))]) hgs64_16 (fun _ => by kernel_rfl)
      have B1_1 := B1_0.gn G1
      have Kp1 := Kp0.new G1
      have R_1 := R_0.gn G1
      refine wl_p (ex_bs (vs := #[(0, (.string (bs (((([35, 69, 88, 84, 45, 88, 45, 83, 84, 65, 82, 84, 58, 84, 73, 77, 69, 45, 79, 70, 70, 83, 69, 84, 61] : List UInt8) ++ (shortT m.st)) ++ ([44, 80, 82, 69, 67, 73, 83, 69, 61, 89, 69, 83] : List UInt8)) ++ ([10] : List UInt8)))))]) (by have e0 : a16.eval (.tmp 63) = (.string (bs (((([35, 69, 88, 84, 45, 88, 45, 83, 84, 65, 82, 84, 58, 84, 73, 77, 69, 45, 79, 70, 70, 83, 69, 84, 61] : List UInt8) ++ (shortT m.st)) ++ ([44, 80, 82, 69, 67, 73, 83, 69, 61, 89, 69, 83] : List UInt8)) ++ ([10] : List UInt8)))) := h63_16; simp only [List.map_toArray, List.map_cons, List.map_nil, e0]) hr1) F16.l fun a17 u17 (h64_17 : a17.tmps.getD 64 undef = (.slice (some ⟨gs64_16, 0, none⟩) 1 1)) => ?_
      have F17 := F16.pt u17
      obtain ⟨v2, w2, hr2, R_2, G2⟩ := R_1.push (ty := 85) (n := 1) (c := 1) [(((([35, 69, 88, 84, 45, 88, 45, 83, 84, 65, 82, 84, 58, 84, 73, 77, 69, 45, 79, 70, 70, 83, 69, 84, 61] : List UInt8) ++ (shortT m.st)) ++ ([44, 80, 82, 69, 67, 73, 83, 69, 61, 89, 69, 83] : List UInt8)) ++ ([10] : List UInt8))] Bs64_16_1 rfl Kp1.size (by first | (simp only [List.length_append, List.length_cons, List.length_nil]; omega) | omega)
      have B1_2 := B1_1.row R_1 (by decide) G2
      have Kp2 := Kp1.row R_1 (Nat.le_refl _) G2
      have h61_17 := u17.w (u16.w (u15.w h61_14))
      refine wl_p (ex_app h61_17 h64_17 hr2) F17.l fun a18 u18 (h65_18 : a18.tmps.getD 65 undef = v2) => ?_
      have F18 := F17.pt u18
      refine wl_p (ex_as h65_18) F18.l fun a19 u19 h3_19 => ?_
      have F19 := F18.pt u19
      have h1_19 := u19.w (u18.w (u17.w (u16.w (u15.w (u14.w (u13.w (u12.w (u11.w (u10.w (u9.w h1_8))))))))))
      exact hK _ _ ⟨F19, h1_19, B1_2, ⟨_, _, h3_19, R_2, by simp [hL, hq, hp], by first | (simp only [List.length_append, List.length_cons, List.length_nil]; omega) | omega⟩, Kp2, hg1⟩
    · refine wp_cond_false (h58_10.trans (by rw [hp])) ?_
      refine wp_skip ?_
      change Code.wp _ (Code.region _ _ _) _ _ _
      refine rg_list ?_
      have h3_10 := u10.w (u9.w (u8.w (u7.w (u6.w (u5.w (u4.w (u3.w (u2.w (u1.w h3_0)))))))))
      refine wl_p (ex_mv h3_10) F10.l fun a11 u11 h61_11 => ?_
      have F11 := F10.pt u11
      have h4_11 := u11.w (u10.w (u9.w h4_8))
      refine wl_p (ex_mv h4_11) F11.l fun a12 u12 h62_12 => ?_
      have F12 := F11.pt u12
      refine wl_p (ex_bin (vy := (.string { data := #[10] })) (v := (.string (bs ((([35, 69, 88, 84, 45, 88, 45, 83, 84, 65, 82, 84, 58, 84, 73, 77, 69, 45, 79, 70, 70, 83, 69, 84, 61] : List UInt8) ++ (shortT m.st)) ++ ([10] : List UInt8))))) h62_12 rfl (bo_adds (([35, 69, 88, 84, 45, 88, 45, 83, 84, 65, 82, 84, 58, 84, 73, 77, 69, 45, 79, 70, 70, 83, 69, 84, 61] : List UInt8) ++ (shortT m.st)) ([10] : List UInt8) _ (by first | (simp only [List.length_append, List.length_cons, List.length_nil]; omega) | omega))) F12.l fun a13 u13 h63_13 => ?_
      have F13 := F12.pt u13
      obtain ⟨gs64_13, hgs64_13⟩ : ∃ g, w0.heap.size = g := ⟨_, rfl⟩
      have ne_1_s64_13 : g1 ≠ gs64_13 := by have := B1_0.lt; omega
      have ge_s64_13 : w00.heap.size ≤ gs64_13 := by have := Kp0.size; omega
      obtain ⟨w1, hr1, Bs64_13_1, G1, hs1⟩ := bs_run (op := Instr.buildSlice 85 1 #[(0, (.string (bs ((([35, 69, 88, 84, 45, 88, 45, 83, 84, 65, 82, 84, 58, 84, 73, 77, 69, 45, 79, 70, 70, 83, 69, 84, 61] : List UInt8) ++ (shortT m.st)) ++ ([10] : List UInt8)))))]) (n := 1) (T := 9) (cs := #[(.string (bs ((([35, 69, 88, 84, 45, 88, 45, 83, 84, 65, 82, 84, 58, 84, 73, 77, 69, 45, 79, 70, 70, 83, 69, 84, 61] : List UInt8) ++ (shortT m.st)) ++ ([10] : List UInt8))))]) hgs64_13 (fun _ => by kernel_rfl)
      have B1_1 := B1_0.gn G1
      have Kp1 := Kp0.new G1
      have R_1 := R_0.gn G1
      refine wl_p (ex_bs (vs := #[(0, (.string (bs ((([35, 69, 88, 84, 45, 88, 45, 83, 84, 65, 82, 84, 58, 84, 73, 77, 69, 45, 79, 70, 70, 83, 69, 84, 61] : List UInt8) ++ (shortT m.st)) ++ ([10] : List UInt8)))))]) (by have e0 : a13.eval (.tmp 63) = (.string (bs ((([35, 69, 88, 84, 45, 88, 45, 83, 84, 65, 82, 84, 58, 84, 73, 77, 69, 45, 79, 70, 70, 83, 69, 84, 61] : List UInt8) ++ (shortT m.st)) ++ ([10] : List UInt8)))) := h63_13; simp only [List.map_toArray, List.map_cons, List.map_nil, e0]) hr1) F13.l fun a14 u14 (h64_14 : a14.tmps.getD 64 undef = (.slice (some ⟨gs64_13, 0, none⟩) 1 1)) => ?_
      have F14 := F13.pt u14
      obtain ⟨v2, w2, hr2, R_2, G2⟩ := R_1.push (ty := 85) (n := 1) (c := 1) [((([35, 69, 88, 84, 45, 88, 45, 83, 84, 65, 82, 84, 58, 84, 73, 77, 69, 45, 79, 70, 70, 83, 69, 84, 61] : List UInt8) ++ (shortT m.st)) ++ ([10] : List UInt8))] Bs64_13_1 rfl Kp1.size (by first | (simp only [List.length_append, List.length_cons, List.length_nil]; omega) | omega)
      have B1_2 := B1_1.row R_1 (by decide) G2
      have Kp2 := Kp1.row R_1 (Nat.le_refl _) G2
      have h61_14 := u14.w (u13.w (u12.w h61_11))
      refine wl_p (ex_app h61_14 h64_14 hr2) F14.l fun a15 u15 (h65_15 : a15.tmps.getD 65 undef = v2) => ?_
      have F15 := F14.pt u15
      refine wl_p (ex_as h65_15) F15.l fun a16 u16 h3_16 => ?_
      have F16 := F15.pt u16
      have h1_16 := u16.w (u15.w (u14.w (u13.w (u12.w (u11.w (u10.w (u9.w h1_8)))))))
      exact hK _ _ ⟨F16, h1_16, B1_2, ⟨_, _, h3_16, R_2, by simp [hL, hq, hp], by first | (simp only [List.length_append, List.length_cons, List.length_nil]; omega) | omega⟩, Kp2, hg1⟩
  · refine wp_cond_false (h52_3.trans (by rw [decide_eq_false hq])) ?_
    refine wp_skip ?_
    have h1_3 := u3.w (u2.w (u1.w h1_0))
    have h3_3 := u3.w (u2.w (u1.w h3_0))
    exact hK _ _ ⟨F3, h1_3, B1_0, ⟨_, _, h3_3, R_0, by simp [hL, hq], by first | (simp only [List.length_append, List.length_cons, List.length_nil]; omega) | omega⟩, Kp0, hg1⟩
theorem he_dsq (okm : m.Ok) (hn20 : n ≤ 20) (hJ : JL 83 w00 g1 44 #[(.int .i64 m.ver), (.int .i64 m.td), (.int .u64 m.seq), (.int .u64 m.dsq), (.int .i64 m.ty), (.int .i64 m.st), (.bool m.pre), (.bool m.ifr), (.bool m.clo), (pto kp), (pto mp), sv] L n a0 w0) (hK : ∀ a' w', JL 83 w00 g1 44 #[(.int .i64 m.ver), (.int .i64 m.td), (.int .u64 m.seq), (.int .u64 m.dsq), (.int .i64 m.ty), (.int .i64 m.st), (.bool m.pre), (.bool m.ifr), (.bool m.clo), (pto kp), (pto mp), sv] (L ++ (if 0 < m.dsq then [35, 69, 88, 84, 45, 88, 45, 68, 73, 83, 67, 79, 78, 84, 73, 78, 85, 73, 84, 89, 45, 83, 69, 81, 85, 69, 78, 67, 69, 58] ++ Lib.decDigits m.dsq ++ [10] else [])) (n + 1) a' w' → Q .normal a' w') : (cat [1, 1, 1, 1, 1, 1, 1, 0] heB).wp Tryz.prog Q a0 w0 := by
  obtain ⟨F0, h1_0, B1_0, ⟨v0, ls, h3_0, R_0, hL, hn⟩, Kp0, hg1⟩ := hJ
  change Code.wp _ (Code.seq (Code.region _ _ _) (Code.cond _ _ _)) _ _ _
  refine wp_seq ?_
  refine rg_list ?_
  refine wl_p (ex_fb 3 h1_0) F0.l fun a1 u1 h66_1 => ?_
  have F1 := F0.pt u1
  refine wl_p (ex_le (v := (.int .u64 m.dsq)) h66_1 (B1_0.cell 3)) F1.l fun a2 u2 h67_2 => ?_
  have F2 := F1.pt u2
  refine wl_p (ex_bin (vy := (.int .u64 0)) (v := (.bool (decide (0 < m.dsq)))) h67_2 rfl (bo_gtn25 m.dsq _)) F2.l fun a3 u3 h68_3 => ?_
  have F3 := F2.pt u3
  change Code.wp _ _ _ _ _
  by_cases hq : 0 < m.dsq
  · refine wp_cond_true (h68_3.trans (by rw [decide_eq_true hq])) ?_
    refine rg_list ?_
    have h3_3 := u3.w (u2.w (u1.w h3_0))
    refine wl_p (ex_mv h3_3) F3.l fun a4 u4 h69_4 => ?_
    have F4 := F3.pt u4
    have h1_4 := u4.w (u3.w (u2.w (u1.w h1_0)))
    refine wl_p (ex_fb 3 h1_4) F4.l fun a5 u5 h70_5 => ?_
    have F5 := F4.pt u5
    refine wl_p (ex_le (v := (.int .u64 m.dsq)) h70_5 (B1_0.cell 3)) F5.l fun a6 u6 h71_6 => ?_
    have F6 := F5.pt u6
    refine wl_cl (args := #[(.int .u64 m.dsq)]) (R := fun v w' => v = .string (bs (Lib.decDigits m.dsq)) ∧ w0 = w') (ex_cl (fun _ _ => by kernel_rfl) (arg1 h71_6)) ((decimal_any (m.dsq : Int) w0 (by omega) (by have := okm.dsq; omega)).mono fun _ _ h => ⟨_, h.1.trans (by rw [Int.toNat_natCast]), rfl, h.2⟩) F6.l ?_
    rintro v w' ⟨rfl, rfl⟩
    intro a7 u7 h72_7
    have F7 := F6.pt u7
    have hdm_dsq := dl20 m.dsq (by have := okm.dsq; omega)
    refine wl_p (ex_bin (vx := (.string { data := #[35, 69, 88, 84, 45, 88, 45, 68, 73, 83, 67, 79, 78, 84, 73, 78, 85, 73, 84, 89, 45, 83, 69, 81, 85, 69, 78, 67, 69, 58] })) (v := (.string (bs (([35, 69, 88, 84, 45, 88, 45, 68, 73, 83, 67, 79, 78, 84, 73, 78, 85, 73, 84, 89, 45, 83, 69, 81, 85, 69, 78, 67, 69, 58] : List UInt8) ++ (Lib.decDigits m.dsq))))) rfl h72_7 (bo_adds ([35, 69, 88, 84, 45, 88, 45, 68, 73, 83, 67, 79, 78, 84, 73, 78, 85, 73, 84, 89, 45, 83, 69, 81, 85, 69, 78, 67, 69, 58] : List UInt8) (Lib.decDigits m.dsq) _ (by first | (simp only [List.length_append, List.length_cons, List.length_nil]; omega) | omega))) F7.l fun a8 u8 h73_8 => ?_
    have F8 := F7.pt u8
    refine wl_p (ex_bin (vy := (.string { data := #[10] })) (v := (.string (bs ((([35, 69, 88, 84, 45, 88, 45, 68, 73, 83, 67, 79, 78, 84, 73, 78, 85, 73, 84, 89, 45, 83, 69, 81, 85, 69, 78, 67, 69, 58] : List UInt8) ++ (Lib.decDigits m.dsq)) ++ ([10] : List UInt8))))) h73_8 rfl (bo_adds (([35, 69, 88, 84, 45, 88, 45, 68, 73, 83, 67, 79, 78, 84, 73, 78, 85, 73, 84, 89, 45, 83, 69, 81, 85, 69, 78, 67, 69, 58] : List UInt8) ++ (Lib.decDigits m.dsq)) ([10] : List UInt8) _ (by first | (simp only [List.length_append, List.length_cons, List.length_nil]; omega) | omega))) F8.l fun a9 u9 h74_9 => ?_
    have F9 := F8.pt u9
    obtain ⟨gs75_9, hgs75_9⟩ : ∃ g, w0.heap.size = g := ⟨_, rfl⟩
    have ne_1_s75_9 : g1 ≠ gs75_9 := by have := B1_0.lt; omega
    have ge_s75_9 : w00.heap.size ≤ gs75_9 := by have := Kp0.size; omega
    obtain ⟨w1, hr1, Bs75_9_1, G1, hs1⟩ := bs_run (op := Instr.buildSlice 85 1 #[(0, (.string (bs ((([35, 69, 88, 84, 45, 88, 45, 68, 73, 83, 67, 79, 78, 84, 73, 78, 85, 73, 84, 89, 45, 83, 69, 81, 85, 69, 78, 67, 69, 58] : List UInt8) ++ (Lib.decDigits m.dsq)) ++ ([10] : List UInt8)))))]) (n := 1) (T := 9) (cs := #[(.string (bs ((([35, 69, 88, 84, 45, 88, 45, 68, 73, 83, 67, 79, 78, 84, 73, 78, 85, 73, 84, 89, 45, 83, 69, 81, 85, 69, 78, 67, 69, 58] : List UInt8) ++ (Lib.decDigits m.dsq)) ++ ([10] : List UInt8))))]) hgs75_9 (fun _ => by kernel_rfl)
    have B1_1 := B1_0.gn G1
    have Kp1 := Kp0.new G1
    have R_1 := R_0.gn G1
    refine wl_p (ex_bs (vs := #[(0, (.string (bs ((([35, 69, 88, 84, 45, 88, 45, 68, 73, 83, 67, 79, 78, 84, 73, 78, 85, 73, 84, 89, 45, 83, 69, 81, 85, 69, 78, 67, 69, 58] : List UInt8) ++ (Lib.decDigits m.dsq)) ++ ([10] : List UInt8)))))]) (by have e0 : a9.eval (.tmp 74) = (.string (bs ((([35, 69, 88, 84, 45, 88, 45, 68, 73, 83, 67, 79, 78, 84, 73, 78, 85, 73, 84, 89, 45, 83, 69, 81, 85, 69, 78, 67, 69, 58] : List UInt8) ++ (Lib.decDigits m.dsq)) ++ ([10] : List UInt8)))) := h74_9; simp only [List.map_toArray, List.map_cons, List.map_nil, e0]) hr1) F9.l fun a10 u10 (h75_10 : a10.tmps.getD 75 undef = (.slice (some ⟨gs75_9, 0, none⟩) 1 1)) => ?_
    have F10 := F9.pt u10
    obtain ⟨v2, w2, hr2, R_2, G2⟩ := R_1.push (ty := 85) (n := 1) (c := 1) [((([35, 69, 88, 84, 45, 88, 45, 68, 73, 83, 67, 79, 78, 84, 73, 78, 85, 73, 84, 89, 45, 83, 69, 81, 85, 69, 78, 67, 69, 58] : List UInt8) ++ (Lib.decDigits m.dsq)) ++ ([10] : List UInt8))] Bs75_9_1 rfl Kp1.size (by first | (simp only [List.length_append, List.length_cons, List.length_nil]; omega) | omega)
    have B1_2 := B1_1.row R_1 (by decide) G2
    have Kp2 := Kp1.row R_1 (Nat.le_refl _) G2
    have h69_10 := u10.w (u9.w (u8.w (u7.w (u6.w (u5.w h69_4)))))
    refine wl_p (ex_app h69_10 h75_10 hr2) F10.l fun a11 u11 (h76_11 : a11.tmps.getD 76 undef = v2) => ?_
    have F11 := F10.pt u11
    refine wl_p (ex_as h76_11) F11.l fun a12 u12 h3_12 => ?_
    have F12 := F11.pt u12
    have h1_12 := u12.w (u11.w (u10.w (u9.w (u8.w (u7.w (u6.w (u5.w h1_4)))))))
    exact hK _ _ ⟨F12, h1_12, B1_2, ⟨_, _, h3_12, R_2, by simp [hL, hq], by first | (simp only [List.length_append, List.length_cons, List.length_nil]; omega) | omega⟩, Kp2, hg1⟩
  · refine wp_cond_false (h68_3.trans (by rw [decide_eq_false hq])) ?_
    refine wp_skip ?_
    have h1_3 := u3.w (u2.w (u1.w h1_0))
    have h3_3 := u3.w (u2.w (u1.w h3_0))
    exact hK _ _ ⟨F3, h1_3, B1_0, ⟨_, _, h3_3, R_0, by simp [hL, hq], by first | (simp only [List.length_append, List.length_cons, List.length_nil]; omega) | omega⟩, Kp0, hg1⟩
theorem he_ifr  (hn20 : n ≤ 20) (hJ : JL 83 w00 g1 44 #[(.int .i64 m.ver), (.int .i64 m.td), (.int .u64 m.seq), (.int .u64 m.dsq), (.int .i64 m.ty), (.int .i64 m.st), (.bool m.pre), (.bool m.ifr), (.bool m.clo), (pto kp), (pto mp), sv] L n a0 w0) (hK : ∀ a' w', JL 83 w00 g1 44 #[(.int .i64 m.ver), (.int .i64 m.td), (.int .u64 m.seq), (.int .u64 m.dsq), (.int .i64 m.ty), (.int .i64 m.st), (.bool m.pre), (.bool m.ifr), (.bool m.clo), (pto kp), (pto mp), sv] (L ++ (if m.ifr = true then [35, 69, 88, 84, 45, 88, 45, 73, 45, 70, 82, 65, 77, 69, 83, 45, 79, 78, 76, 89, 10] else [])) (n + 1) a' w' → Q .normal a' w') : (cat [1, 1, 1, 1, 1, 1, 1, 1, 0] heB).wp Tryz.prog Q a0 w0 := by
  obtain ⟨F0, h1_0, B1_0, ⟨v0, ls, h3_0, R_0, hL, hn⟩, Kp0, hg1⟩ := hJ
  change Code.wp _ (Code.seq (Code.region _ _ _) (Code.cond _ _ _)) _ _ _
  refine wp_seq ?_
  refine rg_list ?_
  refine wl_p (ex_fb 7 h1_0) F0.l fun a1 u1 h77_1 => ?_
  have F1 := F0.pt u1
  refine wl_p (ex_le (v := (.bool m.ifr)) h77_1 (B1_0.cell 7)) F1.l fun a2 u2 h78_2 => ?_
  have F2 := F1.pt u2
  change Code.wp _ _ _ _ _
  rcases Bool.eq_false_or_eq_true (m.ifr) with hq | hq
  · refine wp_cond_true (h78_2.trans (by rw [hq])) ?_
    refine rg_list ?_
    refine wl_p (ex_mv (u2.w (u1.w h3_0))) F2.l fun a3 u3 h79_3 => ?_
    have F3 := F2.pt u3
    obtain ⟨gs80_3, hgs80_3⟩ : ∃ g, w0.heap.size = g := ⟨_, rfl⟩
    have ne_1_s80_3 : g1 ≠ gs80_3 := by have := B1_0.lt; omega
    have ge_s80_3 : w00.heap.size ≤ gs80_3 := by have := Kp0.size; omega
    obtain ⟨w1, hr1, Bs80_3_1, G1, hs1⟩ := bs_run (op := Instr.buildSlice 85 1 #[(0, (.string { data := #[35, 69, 88, 84, 45, 88, 45, 73, 45, 70, 82, 65, 77, 69, 83, 45, 79, 78, 76, 89, 10] }))]) (n := 1) (T := 9) (cs := #[(.string { data := #[35, 69, 88, 84, 45, 88, 45, 73, 45, 70, 82, 65, 77, 69, 83, 45, 79, 78, 76, 89, 10] })]) hgs80_3 (fun _ => by kernel_rfl)
    have B1_1 := B1_0.gn G1
    have Kp1 := Kp0.new G1
    have R_1 := R_0.gn G1
    refine wl_p (ex_bs (vs := #[(0, (.string { data := #[35, 69, 88, 84, 45, 88, 45, 73, 45, 70, 82, 65, 77, 69, 83, 45, 79, 78, 76, 89, 10] }))]) (by simp only [List.map_toArray, List.map_cons, List.map_nil, ev_const]) hr1) F3.l fun a4 u4 (h80_4 : a4.tmps.getD 80 undef = (.slice (some ⟨gs80_3, 0, none⟩) 1 1)) => ?_
    have F4 := F3.pt u4
    obtain ⟨v2, w2, hr2, R_2, G2⟩ := R_1.push (ty := 85) (n := 1) (c := 1) [([35, 69, 88, 84, 45, 88, 45, 73, 45, 70, 82, 65, 77, 69, 83, 45, 79, 78, 76, 89, 10] : List UInt8)] Bs80_3_1 rfl Kp1.size (by first | (simp only [List.length_append, List.length_cons, List.length_nil]; omega) | omega)
    have B1_2 := B1_1.row R_1 (by decide) G2
    have Kp2 := Kp1.row R_1 (Nat.le_refl _) G2
    refine wl_p (ex_app (u4.w h79_3) h80_4 hr2) F4.l fun a5 u5 (h81_5 : a5.tmps.getD 81 undef = v2) => ?_
    have F5 := F4.pt u5
    refine wl_p (ex_as h81_5) F5.l fun a6 u6 h3_6 => ?_
    have F6 := F5.pt u6
    have h1_6 := u6.w (u5.w (u4.w (u3.w (u2.w (u1.w h1_0)))))
    exact hK _ _ ⟨F6, h1_6, B1_2, ⟨_, _, h3_6, R_2, by simp [hL, hq], by first | (simp only [List.length_append, List.length_cons, List.length_nil]; omega) | omega⟩, Kp2, hg1⟩
  · refine wp_cond_false (h78_2.trans (by rw [hq])) ?_
    refine wp_skip ?_
    exact hK _ _ ⟨F2, (u2.w (u1.w h1_0)), B1_0, ⟨_, _, (u2.w (u1.w h3_0)), R_0, by simp [hL, hq], by first | (simp only [List.length_append, List.length_cons, List.length_nil]; omega) | omega⟩, Kp0, hg1⟩
theorem he_end (hn20 : n ≤ 20) (hJ : JL 83 w00 g1 44 #[(.int .i64 m.ver), (.int .i64 m.td), (.int .u64 m.seq), (.int .u64 m.dsq), (.int .i64 m.ty), (.int .i64 m.st), (.bool m.pre), (.bool m.ifr), (.bool m.clo), (pto kp), (pto mp), sv] L n a0 w0) : (cat [1, 1, 1, 1, 1, 1, 1, 1, 1] heB).wp Tryz.prog (fun e a w => bodyPost Tryz.prog Tryz.f26 (fun e w' => ∃ v ls, e = .returned v ∧ TRow w' w00.heap.size v ls ∧ ls.flatten = L ∧ ls.length ≤ 30 ∧ w00.grownBy w' none) e a w) a0 w0 := by
  obtain ⟨F0, h1_0, B1_0, ⟨v0, ls, h3_0, R_0, hL, hn⟩, Kp0, hg1⟩ := hJ
  change Code.wp _ (Code.seq _ _) _ _ _
  refine wp_seq ?_
  refine rg_list ?_
  refine wl_p (ex_mv h3_0) F0.l fun a1 u1 h82_1 => ?_
  have F1 := F0.pt u1
  refine wl_p (ex_as h82_1) F1.l fun a2 u2 h2_2 => ?_
  have F2 := F1.pt u2
  refine wp_ret ?_
  try simp only [Exit.then, Exit.inBlock]
  exact bodyPost_ret (v := v0) ((results_tmp rfl _ _ _).trans (by rw [h2_2])) F2.defers ⟨_, ls, rfl, R_0, hL, by omega, Kp0.grown⟩
end
theorem head_any {m : MedD} {kp mp : Option Nat} {sv : Value} {key : Option KeyD} {map : Option MapD} {w0 : World} (okm : m.Ok) (hty : m.ty = 0 ∨ m.ty = 2) (hk : SKey w0 kp key) (hm : SMap w0 mp map) : Calls Tryz.prog 26 #[.agg (medC m kp mp sv)] w0 fun e w' => ∃ v ls, e = .returned v ∧ TRow w' w0.heap.size v ls ∧ ls.flatten = headX m.ty m.seq m.td m.st m.dsq m.pre m.ifr key map ∧ ls.length ≤ 30 ∧ w0.grownBy w' none := by
  refine calls_of_wp Tryz.func26 rfl ?_
  generalize hA : Act.mk _ _ = a0
  have F0 : Fz 83 a0 := by subst hA; exact ⟨by simp [Tryz.ntmps26], rfl⟩
  have h0_0 : a0.tmps.getD 0 undef = (.agg #[(.int .i64 m.ver), (.int .i64 m.td), (.int .u64 m.seq), (.int .u64 m.dsq), (.int .i64 m.ty), (.int .i64 m.st), (.bool m.pre), (.bool m.ifr), (.bool m.clo), (pto kp), (pto mp), sv]) := by subst hA; exact fr_arg rfl
  clear hA
  have Kp0 := Kp.refl [] w0
  change Code.wp _ (Code.seq _ _) _ _ _
  refine wp_seq ?_
  refine rg_list ?_
  obtain ⟨g1, hg1⟩ : ∃ g, w0.heap.size = g := ⟨_, rfl⟩
  have ge_1 : w0.heap.size ≤ g1 := by have := Kp0.size; omega
  obtain ⟨w1, hr1, B1_1, G1, hs1⟩ := al_run (op := Instr.box 44 (.agg #[(.int .i64 m.ver), (.int .i64 m.td), (.int .u64 m.seq), (.int .u64 m.dsq), (.int .i64 m.ty), (.int .i64 m.st), (.bool m.pre), (.bool m.ifr), (.bool m.clo), (pto kp), (pto mp), sv])) (T := 44) (cs := #[(.int .i64 m.ver), (.int .i64 m.td), (.int .u64 m.seq), (.int .u64 m.dsq), (.int .i64 m.ty), (.int .i64 m.st), (.bool m.pre), (.bool m.ifr), (.bool m.clo), (pto kp), (pto mp), sv]) hg1 (fun _ => by kernel_rfl)
  have Kp1 := Kp0.new G1
  refine wl_p (ex_bx h0_0 hr1) F0.l fun a1 u1 (h1_1 : a1.tmps.getD 1 undef = (.pointer (some ⟨g1, 0, none⟩))) => ?_
  have F1 := F0.pt u1
  refine wl_p (ex_as (v := (.slice none 0 0)) rfl) F1.l fun a2 u2 h2_2 => ?_
  have F2 := F1.pt u2
  change Code.wp _ (Code.seq _ _) _ _ _
  refine wp_seq ?_
  refine rg_list ?_
  obtain ⟨gs5_2, hgs5_2⟩ : ∃ g, w1.heap.size = g := ⟨_, rfl⟩
  have ne_1_s5_2 : g1 ≠ gs5_2 := by have := B1_1.lt; omega
  have ge_s5_2 : w0.heap.size ≤ gs5_2 := by have := Kp1.size; omega
  obtain ⟨w2, hr2, Bs5_2_2, G2, hs2⟩ := bs_run (op := Instr.buildSlice 85 0 #[]) (n := 0) (T := 9) (cs := #[]) hgs5_2 (fun _ => by kernel_rfl)
  have B1_2 := B1_1.gn G2
  have Kp2 := Kp1.new G2
  refine wl_p (ex_bs (vs := #[]) (by simp) hr2) F2.l fun a3 u3 (h5_3 : a3.tmps.getD 5 undef = (.slice (some ⟨gs5_2, 0, none⟩) 0 0)) => ?_
  have F3 := F2.pt u3
  refine wl_p (ex_as h5_3) F3.l fun a4 u4 h3_4 => ?_
  have F4 := F3.pt u4
  change Code.wp _ _ _ _ _
  have h1_4 := u4.w (u3.w (u2.w h1_1))
  have hJ : JL 83 w0 g1 44 #[(.int .i64 m.ver), (.int .i64 m.td), (.int .u64 m.seq), (.int .u64 m.dsq), (.int .i64 m.ty), (.int .i64 m.st), (.bool m.pre), (.bool m.ifr), (.bool m.clo), (pto kp), (pto mp), sv] [] 0 a4 w2 := ⟨F4, h1_4, B1_2, ⟨_, [], h3_4, TRow.zero Bs5_2_2 ge_s5_2, rfl, Nat.le_refl _⟩, Kp2, ge_1⟩
  refine wp_seq (he_key hk (by omega) hJ fun a w hJ => (?_ : Code.wp _ _ _ _ _))
  refine wp_seq (he_map hm (by omega) hJ fun a w hJ => (?_ : Code.wp _ _ _ _ _))
  refine wp_seq (he_type hty (by omega) hJ fun a w hJ => (?_ : Code.wp _ _ _ _ _))
  refine wp_seq (he_nums okm (by omega) hJ fun a w hJ => (?_ : Code.wp _ _ _ _ _))
  refine wp_seq (he_start okm (by omega) hJ fun a w hJ => (?_ : Code.wp _ _ _ _ _))
  refine wp_seq (he_dsq okm (by omega) hJ fun a w hJ => (?_ : Code.wp _ _ _ _ _))
  refine wp_seq (he_ifr (by omega) hJ fun a w hJ => (?_ : Code.wp _ _ _ _ _))
  have h := he_end (by omega) hJ
  simp only [List.nil_append] at h
  exact h
end Go.Proofs.YtlphcidpaidclaaGreatDoor
namespace Go.Proofs.YtlphcidpaidclaaGreatDoor
theorem tb6_len (k : KeyD) (h : k.Ok) : (tb_6 k []).length ≤ 300 := by
  have h1 : k.me.data.toList.length ≤ 40 := h.me
  have h2 : k.uri.data.toList.length ≤ 40 := h.uri
  have h3 : k.iv.data.toList.length ≤ 40 := h.iv
  have h4 : k.fo.data.toList.length ≤ 40 := h.fo
  have h5 : k.ve.data.toList.length ≤ 40 := h.ve
  simp only [tb_6, tx_10, tx_14, tx_17, tx_21]
  repeat' split
  all_goals
    simp only [List.length_append, List.length_cons, List.length_nil]
    omega
theorem tb26_len (k : MapD) (h : k.Ok) : (tb_26 k []).length ≤ 150 := by
  have h1 : k.uri.data.toList.length ≤ 40 := h.uri
  have h2 := dl20 k.li (by have := h.li; omega)
  have h3 := dl20 k.off (by have := h.off; omega)
  simp only [tb_26, tx_31]
  repeat' split
  all_goals
    simp only [List.length_append, List.length_cons, List.length_nil]
    omega
theorem okey_len (k : Option KeyD) (h : ∀ x, k = some x → x.Ok) : (optT tb_6 k []).length ≤ 300 := by
  cases k with
  | none => simp [optT]
  | some k => exact tb6_len k (h k rfl)
theorem omap_len (k : Option MapD) (h : ∀ x, k = some x → x.Ok) : (optT tb_26 k []).length ≤ 150 := by
  cases k with
  | none => simp [optT]
  | some k => exact tb26_len k (h k rfl)
theorem if_len {q : Prop} [Decidable q] (l : List UInt8) (n : Nat) (h : q → l.length ≤ n) : (if q then l else []).length ≤ n := by
  split
  · exact h ‹_›
  · exact Nat.zero_le _
theorem headX_len {m : MedD} (ok : m.Ok) {key : Option KeyD} {map : Option MapD} (hk : ∀ x, key = some x → x.Ok) (hm : ∀ x, map = some x → x.Ok) : (headX m.ty m.seq m.td m.st m.dsq m.pre m.ifr key map).length ≤ 1000 := by
  have h1 := okey_len key hk
  have h2 := omap_len map hm
  have h3 := dl20 m.seq (by have := ok.seq; omega)
  have h4 := dl20 m.td (by have := ok.td; omega)
  have h5 := dl20 m.dsq (by have := ok.dsq; omega)
  have h6 := shortT_len m.st ok.st
  unfold headX
  repeat' split
  all_goals
    simp only [List.length_append, List.length_cons, List.length_nil]
    omega
theorem linesX_len {s : SegD} (ok : SegOk s) : (linesX s).length ≤ 900 := by
  have h1 := okey_len s.key ok.1.key
  have h2 := omap_len s.map ok.1.map
  have h3 := dl20 s.li (by have := ok.1.li; omega)
  have h4 := dl20 s.off (by have := ok.1.off; omega)
  have h5 := sec3_len7 s.e (by have := ok.2; omega)
  have h6 : s.date.data.toList.length ≤ 40 := ok.1.date
  have h7 : s.title.data.toList.length ≤ 40 := ok.1.title
  unfold linesX
  repeat' split
  all_goals
    simp only [List.length_append, List.length_cons, List.length_nil]
    omega
theorem segX_len {s : SegD} (ok : SegOk s) : (segX s).length ≤ 950 := by
  have h := linesX_len ok
  have h6 : s.uri.data.toList.length ≤ 40 := ok.1.uri
  unfold segX
  simp only [List.length_append, List.length_cons, List.length_nil]
  omega
theorem segs_len : ∀ (segs : List SegD), (∀ s ∈ segs, SegOk s) → (segs.flatMap segX).length ≤ 950 * segs.length
  | [], _ => by simp
  | s :: r, h => by
    have h1 := segX_len (h s List.mem_cons_self)
    have h2 := segs_len r fun x hx => h x (List.mem_cons_of_mem _ hx)
    rw [List.flatMap_cons, List.length_append, List.length_cons]
    omega
theorem flat_take (ls : List (List UInt8)) (j : Nat) (hj : j < ls.length) : (ls.take (j + 1)).flatten = (ls.take j).flatten ++ ls[j] := by
  rw [List.take_succ_eq_append_getElem hj, List.flatten_append]; simp
theorem flat_len (ls : List (List UInt8)) (j : Nat) : (ls.take j).flatten.length ≤ ls.flatten.length := by
  conv => rhs; rw [← List.take_append_drop j ls, List.flatten_append, List.length_append]
  omega
theorem segs_take (segs : List SegD) (j : Nat) (hj : j < segs.length) : (segs.take (j + 1)).flatMap segX = (segs.take j).flatMap segX ++ segX segs[j] := by
  rw [List.take_succ_eq_append_getElem hj, List.flatMap_append]; simp
end Go.Proofs.YtlphcidpaidclaaGreatDoor
