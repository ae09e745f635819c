/-
 FnSteps: the playlist as data, whole; all its segments.
-/
import Derived.Test.YtdpebhlkgmopkaaDoorMed
namespace Go.Proofs.YtdpebhlkgmopkaaDoor
open Go.RowKit
set_option maxRecDepth 100000
theorem cv_u8i (n : Nat) (hn : n < 256) (w : World) : (convert 5 3 (.int .u8 n)).run Tryd.prog w = .ok (.int .i64 n) w := by
 simp [go_sem]
 rw [IntKind.wrap_i64]; omega
theorem cv_ui (n : Nat) (hn : n < 256) (w : World) : (convert 42 3 (.int .u64 n)).run Tryd.prog w = .ok (.int .i64 n) w := by
 simp [go_sem]
 rw [IntKind.wrap_i64]; omega
def medC (d : WinD) (iv kv mv : Value) : Array Value := #[.float .f64 (fn d.tgt), .int .u64 d.seq, iv, .string ⟨#[]⟩, .bool d.ifr, .bool d.clo, .int .i64 0, .int .u64 0, .float .f64 0, .bool false, .int .i64 d.ver, kv, mv, .int .i64 d.written]
theorem ER.shape {α : Type} {C : α → Value → Value → Array Value} {kf : α → Option KeyD} {mf : α → Option MapD} {w : World} {base e sz : Nat} {v : Value} {l : List α} (h : ER w base e sz C kf mf v l) : ∃ a n c, v = .slice a n c := by
 obtain ⟨xs, h, _⟩ := h
 rcases h.2 with ⟨rfl, h2⟩ | ⟨g, o, cap, cur, rfl, _⟩ <;> exact ⟨_, _, _, rfl⟩
theorem GR.shape {α : Type} {f : α → Value} {w : World} {base e : Nat} {v : Value} {l : List α} (h : GR w base e f v l) : ∃ a n c, v = .slice a n c := by
 rcases h.2 with ⟨rfl, h2⟩ | ⟨g, o, cap, cur, rfl, _⟩ <;> exact ⟨_, _, _, rfl⟩
abbrev DM : List Nat := [90, 40, 67]
theorem Kt.into {B B' : Nat} {D E : List Nat} {w0 w w' : World} (K : Kt B E w0 w) (K' : Kt B' D w w') (hB : B ≤ w0.heap.size) (hB' : B' = w.heap.size) (hD : ∀ T ∈ D, T ∈ E) : Kt B E w0 w' := K.trans ((K'.low (by rw [hB']; exact K.le hB)).sub hD)
theorem mediaof_any {d : WinD} {B b g hd : Nat} {ms : List Nat} {kp mp : Option Nat} {arr : Array Value} {w0 : World} (H : PlP w0 B b d g hd ms kp mp arr) (hp12 : d.places ≤ 12) (hv : d.ver < 256) (hwr : d.written < 256) : Calls Tryd.prog 30 #[pt b] w0 fun e w' => ∃ iv kv mv ba, e = .returned (.agg (medC d iv kv mv)) ∧ ISR w' ba iv (d.nums.zip d.segs) ∧ KeySl w' kv d.key ∧ MapSl w' mv d.map ∧ Kt w0.heap.size DM w0 w' := by
 have hw : w0.heap.size ≤ w0.heap.size := Nat.le_refl _
 have H_0 := H
 have hml := H.fms.1
 have hrl := H.ring.le
 have Bb_0 : Blk w0 b 104 #[(.float .f64 (fn d.tgt)), (.int .u64 d.seq), (.slice (some ⟨g, 0, none⟩) d.places d.places), (.string ⟨#[]⟩), (.bool d.ifr), (.bool d.clo), (.int .u64 0), (.int .u64 0), (.float .f64 0), (.bool false), (.bool false), (.int .i64 0), (.int .u64 d.written), (.int .u64 d.places), (.int .u64 hd), (.int .u64 ((hd + d.segs.length) % d.places : Nat)), (.int .u64 d.segs.length), (.slice none 0 0), (.int .i64 0), (.int .i8 0), (.int .u8 d.ver), (pto kp), (pto mp)] := H.blk
 refine calls_of_wp Tryd.func30 rfl ?_
 generalize hA : Act.mk _ _ = a0
 have F0 : Fz 60 a0 := by subst hA; exact ⟨by simp [Tryd.ntmps30], rfl⟩
 have h0_0 : a0.tmps.getD 0 undef = (.pointer (some ⟨b, 0, none⟩)) := by subst hA; exact fr_arg rfl
 have K_0 := Kt.refl w0.heap.size DM w0
 refine wp_sr ?_
 obtain ⟨g2, hg2⟩ : ∃ g, w0.heap.size = g := ⟨_, rfl⟩
 have ne_b_2 : b ≠ g2 := by have := Bb_0.lt; omega
 have hgx : w0.heap.size ≤ g2 := by have := K_0.bel.size; omega
 obtain ⟨w1, hr1, B2_1, G1, hs1⟩ := al_run (op := Instr.alloc 67 true (.tuple #[])) (T := 67) (cs := #[(.float .f64 0), (.int .u64 0), (.slice none 0 0), (.string { data := #[] }), (.bool false), (.bool false), (.int .i64 0), (.int .u64 0), (.float .f64 0), (.bool false), (.int .i64 0), (.slice none 0 0), (.slice none 0 0), (.int .i64 0)]) hg2 (fun _ => by kernel_rfl)
 have Bb_1 := Bb_0.gn G1
 have K_1 := K_0.nw hw G1
 have H_1 := H_0.gn G1
 refine wl_pq F0 (ex_al hr1) fun a1 u1 F1 (h2_1 : a1.tmps.getD 2 undef = (.pointer (some ⟨g2, 0, none⟩))) => ?_
 clear K_0 H_0
 change Code.wp _ _ _ _ _
 refine wp_seq ?_
 obtain ⟨w2, hw2⟩ : ∃ w, w = w1.drew := ⟨_, rfl⟩
 have G2 : w1.grownBy w2 none := hw2 ▸ grown_drew _
 have Bb_2 := Bb_1.gn G2
 have B2_2 := B2_1.gn G2
 have K_2 := K_1.nw hw G2
 have H_2 := H_1.gn G2
 refine rg_tree (S := fun w' => Blk w' b 104 #[(.float .f64 (fn d.tgt)), (.int .u64 d.seq), (.slice (some ⟨g, 0, none⟩) d.places d.places), (.string ⟨#[]⟩), (.bool d.ifr), (.bool d.clo), (.int .u64 0), (.int .u64 0), (.float .f64 0), (.bool false), (.bool false), (.int .i64 0), (.int .u64 d.written), (.int .u64 d.places), (.int .u64 hd), (.int .u64 ((hd + d.segs.length) % d.places : Nat)), (.int .u64 d.segs.length), (.slice none 0 0), (.int .i64 0), (.int .i8 0), (.int .u8 d.ver), (pto kp), (pto mp)]) [] 58 hw2 ⟨rfl, by decide⟩ hmix (by kernel_rfl) (by kernel_rfl) (Bb_2) ?_
 clear K_1 H_1
 refine tree_take (j := 0) rfl (by kernel_rfl) (by kernel_rfl) (by kernel_rfl) (fun w hw => ex_mv (u1.w h0_0)) (Bb_2) F1.l fun a2 u2 h3_2 => ?_
 have F2 := F1.pt u2
 refine tree_take (j := 1) rfl (by kernel_rfl) (by kernel_rfl) (by kernel_rfl) (fun w hw => ex_nil h3_2) (Bb_2) F2.l fun a3 u3 h4_3 => ?_
 have F3 := F2.pt u3
 refine tree_take (j := 2) rfl (by kernel_rfl) (by kernel_rfl) (by kernel_rfl) (fun w hw => ex_fb 0 h4_3) (Bb_2) F3.l fun a4 u4 h5_4 => ?_
 have F4 := F3.pt u4
 refine tree_take (j := 3) rfl (by kernel_rfl) (by kernel_rfl) (by kernel_rfl) (fun w hw => ex_le (v := (.float .f64 (fn d.tgt))) h5_4 (hw.cell 0)) (Bb_2) F4.l fun a5 u5 h6_5 => ?_
 have F5 := F4.pt u5
 have h0_5 := u5.w (u4.w (u3.w (u2.w (u1.w h0_0))))
 refine tree_take (j := 4) rfl (by kernel_rfl) (by kernel_rfl) (by kernel_rfl) (fun w hw => ex_mv h0_5) (Bb_2) F5.l fun a6 u6 h7_6 => ?_
 have F6 := F5.pt u6
 refine tree_take (j := 5) rfl (by kernel_rfl) (by kernel_rfl) (by kernel_rfl) (fun w hw => ex_nil h7_6) (Bb_2) F6.l fun a7 u7 h8_7 => ?_
 have F7 := F6.pt u7
 refine tree_take (j := 6) rfl (by kernel_rfl) (by kernel_rfl) (by kernel_rfl) (fun w hw => ex_fb 1 h8_7) (Bb_2) F7.l fun a8 u8 h9_8 => ?_
 have F8 := F7.pt u8
 refine tree_take (j := 7) rfl (by kernel_rfl) (by kernel_rfl) (by kernel_rfl) (fun w hw => ex_le (v := (.int .u64 d.seq)) h9_8 (hw.cell 1)) (Bb_2) F8.l fun a9 u9 h10_9 => ?_
 have F9 := F8.pt u9
 have h0_9 := u9.w (u8.w (u7.w (u6.w h0_5)))
 refine tree_take (j := 8) rfl (by kernel_rfl) (by kernel_rfl) (by kernel_rfl) (fun w hw => ex_mv h0_9) (Bb_2) F9.l fun a10 u10 h11_10 => ?_
 have F10 := F9.pt u10
 refine tree_take (j := 11) rfl (by kernel_rfl) (by kernel_rfl) (by kernel_rfl) (fun w hw => ex_mv (u10.w h0_9)) (Bb_2) F10.l fun a11 u11 h14_11 => ?_
 have F11 := F10.pt u11
 refine tree_take (j := 12) rfl (by kernel_rfl) (by kernel_rfl) (by kernel_rfl) (fun w hw => ex_nil h14_11) (Bb_2) F11.l fun a12 u12 h15_12 => ?_
 have F12 := F11.pt u12
 refine tree_take (j := 13) rfl (by kernel_rfl) (by kernel_rfl) (by kernel_rfl) (fun w hw => ex_fb 3 h15_12) (Bb_2) F12.l fun a13 u13 h16_13 => ?_
 have F13 := F12.pt u13
 refine tree_take (j := 14) rfl (by kernel_rfl) (by kernel_rfl) (by kernel_rfl) (fun w hw => ex_le (v := (.string ⟨#[]⟩)) h16_13 (hw.cell 3)) (Bb_2) F13.l fun a14 u14 h17_14 => ?_
 have F14 := F13.pt u14
 have h0_14 := u14.w (u13.w (u12.w (u11.w (u10.w h0_9))))
 refine tree_take (j := 15) rfl (by kernel_rfl) (by kernel_rfl) (by kernel_rfl) (fun w hw => ex_mv h0_14) (Bb_2) F14.l fun a15 u15 h18_15 => ?_
 have F15 := F14.pt u15
 refine tree_take (j := 16) rfl (by kernel_rfl) (by kernel_rfl) (by kernel_rfl) (fun w hw => ex_nil h18_15) (Bb_2) F15.l fun a16 u16 h19_16 => ?_
 have F16 := F15.pt u16
 refine tree_take (j := 17) rfl (by kernel_rfl) (by kernel_rfl) (by kernel_rfl) (fun w hw => ex_fb 4 h19_16) (Bb_2) F16.l fun a17 u17 h20_17 => ?_
 have F17 := F16.pt u17
 refine tree_take (j := 18) rfl (by kernel_rfl) (by kernel_rfl) (by kernel_rfl) (fun w hw => ex_le (v := (.bool d.ifr)) h20_17 (hw.cell 4)) (Bb_2) F17.l fun a18 u18 h21_18 => ?_
 have F18 := F17.pt u18
 have h0_18 := u18.w (u17.w (u16.w (u15.w h0_14)))
 refine tree_take (j := 19) rfl (by kernel_rfl) (by kernel_rfl) (by kernel_rfl) (fun w hw => ex_mv h0_18) (Bb_2) F18.l fun a19 u19 h22_19 => ?_
 have F19 := F18.pt u19
 refine tree_take (j := 20) rfl (by kernel_rfl) (by kernel_rfl) (by kernel_rfl) (fun w hw => ex_nil h22_19) (Bb_2) F19.l fun a20 u20 h23_20 => ?_
 have F20 := F19.pt u20
 refine tree_take (j := 21) rfl (by kernel_rfl) (by kernel_rfl) (by kernel_rfl) (fun w hw => ex_fb 5 h23_20) (Bb_2) F20.l fun a21 u21 h24_21 => ?_
 have F21 := F20.pt u21
 refine tree_take (j := 22) rfl (by kernel_rfl) (by kernel_rfl) (by kernel_rfl) (fun w hw => ex_le (v := (.bool d.clo)) h24_21 (hw.cell 5)) (Bb_2) F21.l fun a22 u22 h25_22 => ?_
 have F22 := F21.pt u22
 have h0_22 := u22.w (u21.w (u20.w (u19.w h0_18)))
 refine tree_take (j := 23) rfl (by kernel_rfl) (by kernel_rfl) (by kernel_rfl) (fun w hw => ex_mv h0_22) (Bb_2) F22.l fun a23 u23 h26_23 => ?_
 have F23 := F22.pt u23
 refine tree_take (j := 24) rfl (by kernel_rfl) (by kernel_rfl) (by kernel_rfl) (fun w hw => ex_nil h26_23) (Bb_2) F23.l fun a24 u24 h27_24 => ?_
 have F24 := F23.pt u24
 refine tree_take (j := 25) rfl (by kernel_rfl) (by kernel_rfl) (by kernel_rfl) (fun w hw => ex_fb 6 h27_24) (Bb_2) F24.l fun a25 u25 h28_25 => ?_
 have F25 := F24.pt u25
 refine tree_take (j := 26) rfl (by kernel_rfl) (by kernel_rfl) (by kernel_rfl) (fun w hw => ex_le (v := (.int .u64 0)) h28_25 (hw.cell 6)) (Bb_2) F25.l fun a26 u26 h29_26 => ?_
 have F26 := F25.pt u26
 refine tree_take (j := 27) rfl (by kernel_rfl) (by kernel_rfl) (by kernel_rfl) (fun w hw => ex_conv (vx := (.int .u64 0)) (v := (.int .i64 0)) h29_26 (by kernel_rfl)) (Bb_2) F26.l fun a27 u27 h30_27 => ?_
 have F27 := F26.pt u27
 have h0_27 := u27.w (u26.w (u25.w (u24.w (u23.w h0_22))))
 refine tree_take (j := 28) rfl (by kernel_rfl) (by kernel_rfl) (by kernel_rfl) (fun w hw => ex_mv h0_27) (Bb_2) F27.l fun a28 u28 h31_28 => ?_
 have F28 := F27.pt u28
 refine tree_take (j := 29) rfl (by kernel_rfl) (by kernel_rfl) (by kernel_rfl) (fun w hw => ex_nil h31_28) (Bb_2) F28.l fun a29 u29 h32_29 => ?_
 have F29 := F28.pt u29
 refine tree_take (j := 30) rfl (by kernel_rfl) (by kernel_rfl) (by kernel_rfl) (fun w hw => ex_fb 7 h32_29) (Bb_2) F29.l fun a30 u30 h33_30 => ?_
 have F30 := F29.pt u30
 refine tree_take (j := 31) rfl (by kernel_rfl) (by kernel_rfl) (by kernel_rfl) (fun w hw => ex_le (v := (.int .u64 0)) h33_30 (hw.cell 7)) (Bb_2) F30.l fun a31 u31 h34_31 => ?_
 have F31 := F30.pt u31
 have h0_31 := u31.w (u30.w (u29.w (u28.w h0_27)))
 refine tree_take (j := 32) rfl (by kernel_rfl) (by kernel_rfl) (by kernel_rfl) (fun w hw => ex_mv h0_31) (Bb_2) F31.l fun a32 u32 h35_32 => ?_
 have F32 := F31.pt u32
 refine tree_take (j := 33) rfl (by kernel_rfl) (by kernel_rfl) (by kernel_rfl) (fun w hw => ex_nil h35_32) (Bb_2) F32.l fun a33 u33 h36_33 => ?_
 have F33 := F32.pt u33
 refine tree_take (j := 34) rfl (by kernel_rfl) (by kernel_rfl) (by kernel_rfl) (fun w hw => ex_fb 8 h36_33) (Bb_2) F33.l fun a34 u34 h37_34 => ?_
 have F34 := F33.pt u34
 refine tree_take (j := 35) rfl (by kernel_rfl) (by kernel_rfl) (by kernel_rfl) (fun w hw => ex_le (v := (.float .f64 0)) h37_34 (hw.cell 8)) (Bb_2) F34.l fun a35 u35 h38_35 => ?_
 have F35 := F34.pt u35
 have h0_35 := u35.w (u34.w (u33.w (u32.w h0_31)))
 refine tree_take (j := 36) rfl (by kernel_rfl) (by kernel_rfl) (by kernel_rfl) (fun w hw => ex_mv h0_35) (Bb_2) F35.l fun a36 u36 h39_36 => ?_
 have F36 := F35.pt u36
 refine tree_take (j := 37) rfl (by kernel_rfl) (by kernel_rfl) (by kernel_rfl) (fun w hw => ex_nil h39_36) (Bb_2) F36.l fun a37 u37 h40_37 => ?_
 have F37 := F36.pt u37
 refine tree_take (j := 38) rfl (by kernel_rfl) (by kernel_rfl) (by kernel_rfl) (fun w hw => ex_fb 9 h40_37) (Bb_2) F37.l fun a38 u38 h41_38 => ?_
 have F38 := F37.pt u38
 refine tree_take (j := 39) rfl (by kernel_rfl) (by kernel_rfl) (by kernel_rfl) (fun w hw => ex_le (v := (.bool false)) h41_38 (hw.cell 9)) (Bb_2) F38.l fun a39 u39 h42_39 => ?_
 have F39 := F38.pt u39
 have h0_39 := u39.w (u38.w (u37.w (u36.w h0_35)))
 refine tree_take (j := 40) rfl (by kernel_rfl) (by kernel_rfl) (by kernel_rfl) (fun w hw => ex_mv h0_39) (Bb_2) F39.l fun a40 u40 h43_40 => ?_
 have F40 := F39.pt u40
 refine tree_take (j := 43) rfl (by kernel_rfl) (by kernel_rfl) (by kernel_rfl) (fun w hw => ex_mv (u40.w h0_39)) (Bb_2) F40.l fun a41 u41 h46_41 => ?_
 have F41 := F40.pt u41
 refine tree_take (j := 44) rfl (by kernel_rfl) (by kernel_rfl) (by kernel_rfl) (fun w hw => ex_nil h46_41) (Bb_2) F41.l fun a42 u42 h47_42 => ?_
 have F42 := F41.pt u42
 refine tree_take (j := 45) rfl (by kernel_rfl) (by kernel_rfl) (by kernel_rfl) (fun w hw => ex_fb 21 h47_42) (Bb_2) F42.l fun a43 u43 h48_43 => ?_
 have F43 := F42.pt u43
 refine tree_take (j := 46) rfl (by kernel_rfl) (by kernel_rfl) (by kernel_rfl) (fun w hw => ex_le (v := (pto kp)) h48_43 (hw.cell 21)) (Bb_2) F43.l fun a44 u44 h49_44 => ?_
 have F44 := F43.pt u44
 have h0_44 := u44.w (u43.w (u42.w (u41.w (u40.w h0_39))))
 refine tree_take (j := 48) rfl (by kernel_rfl) (by kernel_rfl) (by kernel_rfl) (fun w hw => ex_mv h0_44) (Bb_2) F44.l fun a45 u45 h51_45 => ?_
 have F45 := F44.pt u45
 refine tree_take (j := 49) rfl (by kernel_rfl) (by kernel_rfl) (by kernel_rfl) (fun w hw => ex_nil h51_45) (Bb_2) F45.l fun a46 u46 h52_46 => ?_
 have F46 := F45.pt u46
 refine tree_take (j := 50) rfl (by kernel_rfl) (by kernel_rfl) (by kernel_rfl) (fun w hw => ex_fb 22 h52_46) (Bb_2) F46.l fun a47 u47 h53_47 => ?_
 have F47 := F46.pt u47
 refine tree_take (j := 51) rfl (by kernel_rfl) (by kernel_rfl) (by kernel_rfl) (fun w hw => ex_le (v := (pto mp)) h53_47 (hw.cell 22)) (Bb_2) F47.l fun a48 u48 h54_48 => ?_
 have F48 := F47.pt u48
 have h0_48 := u48.w (u47.w (u46.w (u45.w h0_44)))
 refine tree_take (j := 53) rfl (by kernel_rfl) (by kernel_rfl) (by kernel_rfl) (fun w hw => ex_mv h0_48) (Bb_2) F48.l fun a49 u49 h56_49 => ?_
 have F49 := F48.pt u49
 refine tree1 (j := 9) (by kernel_rfl) ?_
 have h11_49 := u49.w (u48.w (u47.w (u46.w (u45.w (u44.w (u43.w (u42.w (u41.w (u40.w (u39.w (u38.w (u37.w (u36.w (u35.w (u34.w (u33.w (u32.w (u31.w (u30.w (u29.w (u28.w (u27.w (u26.w (u25.w (u24.w (u23.w (u22.w (u21.w (u20.w (u19.w (u18.w (u17.w (u16.w (u15.w (u14.w (u13.w (u12.w (u11.w h11_10))))))))))))))))))))))))))))))))))))))
 refine tk_cl (args := #[(.pointer (some ⟨b, 0, none⟩))]) (R := fun v w' => ∃ ba, GR w' ba 90 pt v ms ∧ Kt w2.heap.size [90] w2 w') rfl (ex_cl (fun _ _ => by kernel_rfl) (arg1 h11_49)) ((inorder_any H_2 hp12).mono fun _ _ ⟨v, h, h1, h2⟩ => ⟨v, h, _, h1, h2⟩) F49.l ?_
 rintro pv w3 ⟨ba, pr_3, KK⟩
 have Bb_3 := Bb_2.bl KK.bel
 have B2_3 := B2_2.bl KK.bel
 have K_3 := K_2.into KK hw rfl (by decide)
 have H_3 := H_2.bl KK.bel
 refine ⟨Bb_3, ?_⟩
 intro a50 u50 h12_50
 have F50 := F49.pt u50
 clear K_2 H_2 KK
 refine tree1 (j := 10) (by kernel_rfl) ?_
 refine tk_cl (args := #[pv]) (R := fun v w' => ∃ ba, ISR w' ba v (d.nums.zip d.segs) ∧ Kt w3.heap.size [40] w3 w') rfl (ex_cl (fun _ _ => by kernel_rfl) (arg1 h12_50)) ((segsof_any pr_3 H_3.fms (by omega)).mono fun _ _ ⟨v, h, h1, h2⟩ => ⟨v, h, _, h1, h2⟩) F50.l ?_
 rintro iv w4 ⟨bi, is_4, KK⟩
 have Bb_4 := Bb_3.bl KK.bel
 have B2_4 := B2_3.bl KK.bel
 have K_4 := K_3.into KK hw rfl (by decide)
 have H_4 := H_3.bl KK.bel
 obtain ⟨iva, ivn, ivc, rfl⟩ := is_4.shape
 refine ⟨Bb_4, ?_⟩
 intro a51 u51 h13_51
 have F51 := F50.pt u51
 clear K_3 H_3 KK
 refine tree1 (j := 41) (by kernel_rfl) ?_
 have h43_51 := u51.w (u50.w (u49.w (u48.w (u47.w (u46.w (u45.w (u44.w (u43.w (u42.w (u41.w h43_40))))))))))
 refine tk_cl (args := #[(.pointer (some ⟨b, 0, none⟩))]) (R := fun v w' => v = (.int .u8 d.ver) ∧ w4 = w') rfl (ex_cl (fun _ _ => by kernel_rfl) (arg1 h43_51)) ((version_any H_4).mono fun _ _ h => ⟨_, h.1, rfl, h.2.symm⟩) F51.l ?_
 rintro v w' ⟨rfl, rfl⟩
 refine ⟨Bb_4, ?_⟩
 intro a52 u52 h44_52
 have F52 := F51.pt u52
 refine tree_take (j := 42) rfl (by kernel_rfl) (by kernel_rfl) (by kernel_rfl) (fun w hw => ex_conv (vx := (.int .u8 d.ver)) (v := (.int .i64 d.ver)) h44_52 (cv_u8i d.ver (by omega) _)) (Bb_4) F52.l fun a53 u53 h45_53 => ?_
 have F53 := F52.pt u53
 refine tree1 (j := 47) (by kernel_rfl) ?_
 have h49_53 := u53.w (u52.w (u51.w (u50.w (u49.w (u48.w (u47.w (u46.w (u45.w h49_44))))))))
 refine tk_cl (args := #[(pto kp)]) (R := fun v w' => KeySl w' v d.key ∧ w4.grownBy w' none) rfl (ex_cl (fun _ _ => by kernel_rfl) (arg1 h49_53)) ((keyof_any H_4.fkey).mono fun _ _ h => h) F53.l ?_
 rintro kv w5 ⟨sk_5, G5⟩
 have Bb_5 := Bb_4.gn G5
 have B2_5 := B2_4.gn G5
 have K_5 := K_4.nw hw G5
 have H_5 := H_4.gn G5
 have is_5 := is_4.kt (Kt.of_none G5) (by decide) (by decide) (by decide)
 obtain ⟨kva, kvn, kvc, rfl⟩ := sk_5.shape
 refine ⟨Bb_5, ?_⟩
 intro a54 u54 h50_54
 have F54 := F53.pt u54
 clear K_4 H_4 is_4
 refine tree1 (j := 52) (by kernel_rfl) ?_
 have h54_54 := u54.w (u53.w (u52.w (u51.w (u50.w (u49.w h54_48)))))
 refine tk_cl (args := #[(pto mp)]) (R := fun v w' => MapSl w' v d.map ∧ w5.grownBy w' none) rfl (ex_cl (fun _ _ => by kernel_rfl) (arg1 h54_54)) ((mapof_any H_5.fmap).mono fun _ _ h => h) F54.l ?_
 rintro mv w6 ⟨sm_6, G6⟩
 have Bb_6 := Bb_5.gn G6
 have B2_6 := B2_5.gn G6
 have K_6 := K_5.nw hw G6
 have H_6 := H_5.gn G6
 have is_6 := is_5.kt (Kt.of_none G6) (by decide) (by decide) (by decide)
 have sk_6 := sk_5.kt (Kt.of_none G6) (by decide)
 obtain ⟨mva, mvn, mvc, rfl⟩ := sm_6.shape
 refine ⟨Bb_6, ?_⟩
 intro a55 u55 h55_55
 have F55 := F54.pt u55
 clear K_5 H_5 is_5
 refine tree1 (j := 54) (by kernel_rfl) ?_
 have h56_55 := u55.w (u54.w (u53.w (u52.w (u51.w (u50.w h56_49)))))
 refine tk_cl (args := #[(.pointer (some ⟨b, 0, none⟩))]) (R := fun v w' => v = (.int .u64 d.written) ∧ w6 = w') rfl (ex_cl (fun _ _ => by kernel_rfl) (arg1 h56_55)) ((winsize_any H_6).mono fun _ _ h => ⟨_, h.1, rfl, h.2.symm⟩) F55.l ?_
 rintro v w' ⟨rfl, rfl⟩
 refine ⟨Bb_6, ?_⟩
 intro a56 u56 h57_56
 have F56 := F55.pt u56
 refine tree_take (j := 55) rfl (by kernel_rfl) (by kernel_rfl) (by kernel_rfl) (fun w hw => ex_conv (vx := (.int .u64 d.written)) (v := (.int .i64 d.written)) h57_56 (cv_ui d.written (by omega) _)) (Bb_6) F56.l fun a57 u57 h58_57 => ?_
 have F57 := F56.pt u57
 have h6_57 := u57.w (u56.w (u55.w (u54.w (u53.w (u52.w (u51.w (u50.w (u49.w (u48.w (u47.w (u46.w (u45.w (u44.w (u43.w (u42.w (u41.w (u40.w (u39.w (u38.w (u37.w (u36.w (u35.w (u34.w (u33.w (u32.w (u31.w (u30.w (u29.w (u28.w (u27.w (u26.w (u25.w (u24.w (u23.w (u22.w (u21.w (u20.w (u19.w (u18.w (u17.w (u16.w (u15.w (u14.w (u13.w (u12.w (u11.w (u10.w (u9.w (u8.w (u7.w (u6.w h6_5)))))))))))))))))))))))))))))))))))))))))))))))))))
 have h10_57 := u57.w (u56.w (u55.w (u54.w (u53.w (u52.w (u51.w (u50.w (u49.w (u48.w (u47.w (u46.w (u45.w (u44.w (u43.w (u42.w (u41.w (u40.w (u39.w (u38.w (u37.w (u36.w (u35.w (u34.w (u33.w (u32.w (u31.w (u30.w (u29.w (u28.w (u27.w (u26.w (u25.w (u24.w (u23.w (u22.w (u21.w (u20.w (u19.w (u18.w (u17.w (u16.w (u15.w (u14.w (u13.w (u12.w (u11.w (u10.w h10_9)))))))))))))))))))))))))))))))))))))))))))))))
 have h13_57 := u57.w (u56.w (u55.w (u54.w (u53.w (u52.w h13_51)))))
 have h17_57 := u57.w (u56.w (u55.w (u54.w (u53.w (u52.w (u51.w (u50.w (u49.w (u48.w (u47.w (u46.w (u45.w (u44.w (u43.w (u42.w (u41.w (u40.w (u39.w (u38.w (u37.w (u36.w (u35.w (u34.w (u33.w (u32.w (u31.w (u30.w (u29.w (u28.w (u27.w (u26.w (u25.w (u24.w (u23.w (u22.w (u21.w (u20.w (u19.w (u18.w (u17.w (u16.w (u15.w h17_14))))))))))))))))))))))))))))))))))))))))))
 have h21_57 := u57.w (u56.w (u55.w (u54.w (u53.w (u52.w (u51.w (u50.w (u49.w (u48.w (u47.w (u46.w (u45.w (u44.w (u43.w (u42.w (u41.w (u40.w (u39.w (u38.w (u37.w (u36.w (u35.w (u34.w (u33.w (u32.w (u31.w (u30.w (u29.w (u28.w (u27.w (u26.w (u25.w (u24.w (u23.w (u22.w (u21.w (u20.w (u19.w h21_18))))))))))))))))))))))))))))))))))))))
 have h25_57 := u57.w (u56.w (u55.w (u54.w (u53.w (u52.w (u51.w (u50.w (u49.w (u48.w (u47.w (u46.w (u45.w (u44.w (u43.w (u42.w (u41.w (u40.w (u39.w (u38.w (u37.w (u36.w (u35.w (u34.w (u33.w (u32.w (u31.w (u30.w (u29.w (u28.w (u27.w (u26.w (u25.w (u24.w (u23.w h25_22))))))))))))))))))))))))))))))))))
 have h30_57 := u57.w (u56.w (u55.w (u54.w (u53.w (u52.w (u51.w (u50.w (u49.w (u48.w (u47.w (u46.w (u45.w (u44.w (u43.w (u42.w (u41.w (u40.w (u39.w (u38.w (u37.w (u36.w (u35.w (u34.w (u33.w (u32.w (u31.w (u30.w (u29.w (u28.w h30_27)))))))))))))))))))))))))))))
 have h34_57 := u57.w (u56.w (u55.w (u54.w (u53.w (u52.w (u51.w (u50.w (u49.w (u48.w (u47.w (u46.w (u45.w (u44.w (u43.w (u42.w (u41.w (u40.w (u39.w (u38.w (u37.w (u36.w (u35.w (u34.w (u33.w (u32.w h34_31)))))))))))))))))))))))))
 have h38_57 := u57.w (u56.w (u55.w (u54.w (u53.w (u52.w (u51.w (u50.w (u49.w (u48.w (u47.w (u46.w (u45.w (u44.w (u43.w (u42.w (u41.w (u40.w (u39.w (u38.w (u37.w (u36.w h38_35)))))))))))))))))))))
 have h42_57 := u57.w (u56.w (u55.w (u54.w (u53.w (u52.w (u51.w (u50.w (u49.w (u48.w (u47.w (u46.w (u45.w (u44.w (u43.w (u42.w (u41.w (u40.w h42_39)))))))))))))))))
 have h45_57 := u57.w (u56.w (u55.w (u54.w h45_53)))
 have h50_57 := u57.w (u56.w (u55.w h50_54))
 refine tree_take (j := 56) rfl (by kernel_rfl) (by kernel_rfl) (by kernel_rfl) (fun w hw => ex_bd (w' := w) (vs :=  #[(0, (.float .f64 (fn d.tgt))), (1, (.int .u64 d.seq)), (2, (.slice iva ivn ivc)), (3, (.string ⟨#[]⟩)), (4, (.bool d.ifr)), (5, (.bool d.clo)), (6, (.int .i64 0)), (7, (.int .u64 0)), (8, (.float .f64 0)), (9, (.bool false)), (10, (.int .i64 d.ver)), (11, (.slice kva kvn kvc)), (12, (.slice mva mvn mvc)), (13, (.int .i64 d.written))]) (v := (.agg #[(.float .f64 (fn d.tgt)), (.int .u64 d.seq), (.slice iva ivn ivc), (.string ⟨#[]⟩), (.bool d.ifr), (.bool d.clo), (.int .i64 0), (.int .u64 0), (.float .f64 0), (.bool false), (.int .i64 d.ver), (.slice kva kvn kvc), (.slice mva mvn mvc), (.int .i64 d.written)])) (by have e0 : a57.eval (.tmp 6) = (.float .f64 (fn d.tgt)) := h6_57; have e1 : a57.eval (.tmp 10) = (.int .u64 d.seq) := h10_57; have e2 : a57.eval (.tmp 13) = (.slice iva ivn ivc) := h13_57; have e3 : a57.eval (.tmp 17) = (.string ⟨#[]⟩) := h17_57; have e4 : a57.eval (.tmp 21) = (.bool d.ifr) := h21_57; have e5 : a57.eval (.tmp 25) = (.bool d.clo) := h25_57; have e6 : a57.eval (.tmp 30) = (.int .i64 0) := h30_57; have e7 : a57.eval (.tmp 34) = (.int .u64 0) := h34_57; have e8 : a57.eval (.tmp 38) = (.float .f64 0) := h38_57; have e9 : a57.eval (.tmp 42) = (.bool false) := h42_57; have e10 : a57.eval (.tmp 45) = (.int .i64 d.ver) := h45_57; have e11 : a57.eval (.tmp 50) = (.slice kva kvn kvc) := h50_57; have e12 : a57.eval (.tmp 55) = (.slice mva mvn mvc) := (u57.w (u56.w h55_55)); have e13 : a57.eval (.tmp 58) = (.int .i64 d.written) := h58_57; simp only [List.map_toArray, List.map_cons, List.map_nil, e0, e1, e2, e3, e4, e5, e6, e7, e8, e9, e10, e11, e12, e13]) (by kernel_rfl)) (Bb_6) F57.l fun a58 u58 h59_58 => ?_
 have F58 := F57.pt u58
 refine tree1 (j := 57) (by kernel_rfl) ?_
 obtain ⟨w7, hr7, B2_7, G7⟩ := sta_run (T := 67) (cs := #[(.float .f64 (fn d.tgt)), (.int .u64 d.seq), (.slice iva ivn ivc), (.string ⟨#[]⟩), (.bool d.ifr), (.bool d.clo), (.int .i64 0), (.int .u64 0), (.float .f64 0), (.bool false), (.int .i64 d.ver), (.slice kva kvn kvc), (.slice mva mvn mvc), (.int .i64 d.written)]) (fun _ => by kernel_rfl) B2_6 rfl rfl (by simp [Value.oneCell'])
 have Bb_7 := Bb_6.gk G7 ne_b_2
 have K_7 := K_6.blk hw B2_6 hgx (by decide) G7
 have is_7 := is_6.kt (Kt.of_blk B2_6 G7) (by decide) (by decide) (by decide)
 have sk_7 := sk_6.kt (Kt.of_blk B2_6 G7) (by decide)
 have sm_7 := sm_6.kt (Kt.of_blk B2_6 G7) (by decide)
 have h2_58 := u58.w (u57.w (u56.w (u55.w (u54.w (u53.w (u52.w (u51.w (u50.w (u49.w (u48.w (u47.w (u46.w (u45.w (u44.w (u43.w (u42.w (u41.w (u40.w (u39.w (u38.w (u37.w (u36.w (u35.w (u34.w (u33.w (u32.w (u31.w (u30.w (u29.w (u28.w (u27.w (u26.w (u25.w (u24.w (u23.w (u22.w (u21.w (u20.w (u19.w (u18.w (u17.w (u16.w (u15.w (u14.w (u13.w (u12.w (u11.w (u10.w (u9.w (u8.w (u7.w (u6.w (u5.w (u4.w (u3.w (u2.w h2_1))))))))))))))))))))))))))))))))))))))))))))))))))))))))
 refine tk_n rfl (ex_st h2_58 h59_58 hr7) (Bb_7) ?_
 clear K_6 is_6
 refine tree0 (by kernel_rfl) ?_
 change Code.wp _ _ _ _ _
 refine wp_ret ?_
 try simp only [Exit.then, Exit.inBlock]
 exact bodyPost_ret (v := .agg #[(.float .f64 (fn d.tgt)), (.int .u64 d.seq), (.slice iva ivn ivc), (.string ⟨#[]⟩), (.bool d.ifr), (.bool d.clo), (.int .i64 0), (.int .u64 0), (.float .f64 0), (.bool false), (.int .i64 d.ver), (.slice kva kvn kvc), (.slice mva mvn mvc), (.int .i64 d.written)]) (results_cell_row rfl _ _ _ _ _ _ _ h2_58 B2_7 Tryd.underlying67 rfl (by kernel_rfl)) F58.defers ⟨_, _, _, _, rfl, is_7, sk_7, sm_7, K_7⟩
end Go.Proofs.YtdpebhlkgmopkaaDoor
