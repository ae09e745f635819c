/-
  segmentOf: a segment by a number.
-/
import Derived.Test.YtlphcidpaidclaaGreatDoorSpm
namespace Go.Proofs.YtlphcidpaidclaaGreatDoor
open Go.RowKit
set_option maxRecDepth 100000
noncomputable def sgB : Code := Tryz.f22.body.getD .skip
structure JSeg (w0 : World) (n g2 g3 : Nat) (a : Act) (w : World) : Prop where
  fz : Fz 66 a
  t0 : a.tmps.getD 0 undef = .int .u32 n
  t2 : a.tmps.getD 2 undef = .pointer (some ⟨g2, 0, none⟩)
  t3 : a.tmps.getD 3 undef = .pointer (some ⟨g3, 0, none⟩)
  b2 : Blk w g2 53 #[.string ⟨#[]⟩, .string ⟨#[]⟩, .int .i64 0, .int .i64 0, .int .i64 0, .pointer none, .pointer none, .bool false, .string ⟨#[]⟩]
  b3 : ∃ s kp mp, Blk w g3 53 (ssegC s kp mp) ∧ SKey w kp s.key ∧ SMap w mp s.map ∧ SegOk s
  kp : Kp [] w0 w
  h2 : w0.heap.size ≤ g2
  h3 : w0.heap.size ≤ g3
  ne : g2 ≠ g3
section
variable {w00 w0 w : World} {n g2 g3 : Nat} {a0 : Act} {Q : Exit → Act → World → Prop}
theorem SegOk.title {s : SegD} (h : SegOk s) {x : ByteArray} (hx : x.size ≤ 40) : SegOk { s with title := x } := ⟨⟨hx, h.1.uri, h.1.date, h.1.li, h.1.off, h.1.key, h.1.map⟩, h.2⟩
theorem SegOk.date {s : SegD} (h : SegOk s) {x : ByteArray} (hx : x.size ≤ 40) : SegOk { s with date := x } := ⟨⟨h.1.title, h.1.uri, hx, h.1.li, h.1.off, h.1.key, h.1.map⟩, h.2⟩
theorem SegOk.part {s : SegD} (h : SegOk s) {x y : Nat} (hx : x < 9223372036854775808) (hy : y < 9223372036854775808) : SegOk { s with li := x, off := y } := ⟨⟨h.1.title, h.1.uri, h.1.date, hx, hy, h.1.key, h.1.map⟩, h.2⟩
theorem SegOk.key {s : SegD} (h : SegOk s) {x : Option KeyD} (hx : ∀ k, x = some k → k.Ok) : SegOk { s with key := x } := ⟨⟨h.1.title, h.1.uri, h.1.date, h.1.li, h.1.off, hx, h.1.map⟩, h.2⟩
theorem SegOk.map {s : SegD} (h : SegOk s) {x : Option MapD} (hx : ∀ k, x = some k → k.Ok) : SegOk { s with map := x } := ⟨⟨h.1.title, h.1.uri, h.1.date, h.1.li, h.1.off, h.1.key, hx⟩, h.2⟩
theorem SKey.ok_ {w : World} {kp : Option Nat} {k : Option KeyD} (h : SKey w kp k) : ∀ x, k = some x → x.Ok := by
  cases h with
  | nil => exact fun _ e => by cases e
  | mk h ok => exact fun x e => by cases e; exact ok
theorem SMap.ok_ {w : World} {kp : Option Nat} {k : Option MapD} (h : SMap w kp k) : ∀ x, k = some x → x.Ok := by
  cases h with
  | nil => exact fun _ e => by cases e
  | mk h ok => exact fun x e => by cases e; exact ok
theorem pto_one (kp : Option Nat) : (pto kp).oneCell' = true := by cases kp <;> rfl
theorem one_ssegC (s : SegD) (kp mp : Option Nat) : ∀ v ∈ (ssegC s kp mp).toList, v.oneCell' = true := by
  intro v hv
  simp only [ssegC, List.mem_cons, List.not_mem_nil, or_false] at hv
  rcases hv with rfl | rfl | rfl | rfl | rfl | rfl | rfl | rfl | rfl <;> first | rfl | exact pto_one _

theorem sg_title (hn : n < 4294967296) (hJ : JSeg w00 n g2 g3 a0 w0) (hK : ∀ a' w', JSeg w00 n g2 g3 a' w' → Q .normal a' w') : (cat [1, 1, 0] sgB).wp Tryz.prog Q a0 w0 := by
  obtain ⟨F0, h0_0, h2_0, h3_0, B2_0, ⟨s, kp, mp, B3_0, sk_0, sm_0, ok⟩, Kp0, hg2, hg3, hne⟩ := hJ
  change Code.wp _ (Code.seq (Code.region _ _ _) (Code.cond _ _ _)) _ _ _
  refine wp_seq ?_
  refine rg_list ?_
  refine wl_p (ex_mv h0_0) F0.l fun a1 u1 h15_1 => ?_
  have F1 := F0.pt u1
  obtain ⟨r16_1, b16_1, e16_1⟩ := u_shr n 13 hn
  refine wl_p (ex_bin (vy := (.int .u64 13)) (v := (.int .u32 r16_1)) h15_1 rfl (e16_1 _ _ _)) F1.l fun a2 u2 h16_2 => ?_
  have F2 := F1.pt u2
  obtain ⟨r17_2, e17_2⟩ := u_and r16_1 1
  refine wl_p (ex_bin (vy := (.int .u32 1)) (v := (.int .u32 r17_2)) h16_2 rfl (e17_2 _ _ _)) F2.l fun a3 u3 h17_3 => ?_
  have F3 := F2.pt u3
  obtain ⟨q18_3, e18_3⟩ := u_eql r17_2 1
  refine wl_p (ex_bin (vy := (.int .u32 1)) (v := (.bool q18_3)) h17_3 rfl (e18_3 _ _ _)) F3.l fun a4 u4 h18_4 => ?_
  have F4 := F3.pt u4
  change Code.wp _ _ _ _ _
  cases q18_3
  · refine wp_cond_false h18_4 ?_
    refine wp_skip ?_
    have h0_4 := u4.w (u3.w (u2.w (u1.w h0_0)))
    have h2_4 := u4.w (u3.w (u2.w (u1.w h2_0)))
    have h3_4 := u4.w (u3.w (u2.w (u1.w h3_0)))
    exact hK _ _ ⟨F4, h0_4, h2_4, h3_4, B2_0, ⟨s, kp, mp, B3_0, sk_0, sm_0, ok⟩, Kp0, hg2, hg3, hne⟩
  · refine wp_cond_true h18_4 ?_
    refine rg_list ?_
    have h0_4 := u4.w (u3.w (u2.w (u1.w h0_0)))
    refine wl_p (ex_mv h0_4) F4.l fun a5 u5 h19_5 => ?_
    have F5 := F4.pt u5
    obtain ⟨r20_5, b20_5, e20_5⟩ := u_shr n 15 hn
    refine wl_p (ex_bin (vy := (.int .u64 15)) (v := (.int .u32 r20_5)) h19_5 rfl (e20_5 _ _ _)) F5.l fun a6 u6 h20_6 => ?_
    have F6 := F5.pt u6
    refine wl_cl (args := #[(.int .u32 r20_5), (.int .i64 0)]) (R := fun v w' => (∃ x : ByteArray, v = .string x ∧ x.size ≤ 14) ∧ w0 = w') (ex_cl (fun _ _ => by kernel_rfl) (arg2 h20_6 rfl)) ((wordOf_any (r20_5 : Int) (by omega) (by have := b20_5; omega) 0 (by decide) w0).mono fun _ _ ⟨⟨x, h1, h2⟩, h3⟩ => ⟨_, h1, ⟨x, rfl, h2⟩, h3⟩) F6.l ?_
    rintro v w' ⟨⟨x21_6, rfl, z21_6⟩, rfl⟩
    intro a7 u7 h21_7
    have F7 := F6.pt u7
    have h3_7 := u7.w (u6.w (u5.w (u4.w (u3.w (u2.w (u1.w h3_0))))))
    refine wl_p (ex_fb 0 h3_7) F7.l fun a8 u8 h22_8 => ?_
    have F8 := F7.pt u8
    obtain ⟨w1, hr1, B3_1, G1⟩ := st_run (T := 9) (o := 0) (v := (.string x21_6)) (cs' := #[(.string x21_6), (.string s.uri), (.int .i64 s.e), (.int .i64 s.li), (.int .i64 s.off), (pto kp), (pto mp), (.bool s.disc), (.string s.date)]) (fun _ => by kernel_rfl) B3_0 rfl (Nat.le_of_ble_eq_true rfl) rfl
    have B2_1 := B2_0.gk G1 hne
    have Kp1 := Kp0.set G1 (Or.inr hg3)
    have sk_1 := sk_0.gk B3_0 (by decide) G1
    have sm_1 := sm_0.gk B3_0 (by decide) G1
    refine wl_n (ex_st h22_8 (u8.w h21_7) hr1) ?_
    have h0_8 := u8.w (u7.w (u6.w (u5.w h0_4)))
    have h2_8 := u8.w (u7.w (u6.w (u5.w (u4.w (u3.w (u2.w (u1.w h2_0)))))))
    exact hK _ _ ⟨F8, h0_8, h2_8, (u8.w h3_7), B2_1, ⟨{ s with title := x21_6 }, kp, mp, B3_1, sk_1, sm_1, ok.title (Nat.le_trans z21_6 (by decide))⟩, Kp1, hg2, hg3, hne⟩
theorem sg_part (hn : n < 4294967296) (hJ : JSeg w00 n g2 g3 a0 w0) (hK : ∀ a' w', JSeg w00 n g2 g3 a' w' → Q .normal a' w') : (cat [1, 1, 1, 0] sgB).wp Tryz.prog Q a0 w0 := by
  obtain ⟨F0, h0_0, h2_0, h3_0, B2_0, ⟨s, kp, mp, B3_0, sk_0, sm_0, ok⟩, Kp0, hg2, hg3, hne⟩ := hJ
  change Code.wp _ (Code.seq (Code.region _ _ _) (Code.cond _ _ _)) _ _ _
  refine wp_seq ?_
  refine rg_list ?_
  refine wl_p (ex_mv h0_0) F0.l fun a1 u1 h23_1 => ?_
  have F1 := F0.pt u1
  obtain ⟨r24_1, b24_1, e24_1⟩ := u_shr n 14 hn
  refine wl_p (ex_bin (vy := (.int .u64 14)) (v := (.int .u32 r24_1)) h23_1 rfl (e24_1 _ _ _)) F1.l fun a2 u2 h24_2 => ?_
  have F2 := F1.pt u2
  obtain ⟨r25_2, e25_2⟩ := u_and r24_1 3
  refine wl_p (ex_bin (vy := (.int .u32 3)) (v := (.int .u32 r25_2)) h24_2 rfl (e25_2 _ _ _)) F2.l fun a3 u3 h25_3 => ?_
  have F3 := F2.pt u3
  obtain ⟨q26_3, e26_3⟩ := u_eql r25_2 1
  refine wl_p (ex_bin (vy := (.int .u32 1)) (v := (.bool q26_3)) h25_3 rfl (e26_3 _ _ _)) F3.l fun a4 u4 h26_4 => ?_
  have F4 := F3.pt u4
  change Code.wp _ _ _ _ _
  cases q26_3
  · refine wp_cond_false h26_4 ?_
    refine wp_skip ?_
    have h0_4 := u4.w (u3.w (u2.w (u1.w h0_0)))
    have h2_4 := u4.w (u3.w (u2.w (u1.w h2_0)))
    have h3_4 := u4.w (u3.w (u2.w (u1.w h3_0)))
    exact hK _ _ ⟨F4, h0_4, h2_4, h3_4, B2_0, ⟨s, kp, mp, B3_0, sk_0, sm_0, ok⟩, Kp0, hg2, hg3, hne⟩
  · refine wp_cond_true h26_4 ?_
    refine rg_list ?_
    have h0_4 := u4.w (u3.w (u2.w (u1.w h0_0)))
    refine wl_p (ex_mv h0_4) F4.l fun a5 u5 h27_5 => ?_
    have F5 := F4.pt u5
    obtain ⟨r28_5, b28_5, e28_5⟩ := u_shr n 5 hn
    refine wl_p (ex_bin (vy := (.int .u64 5)) (v := (.int .u32 r28_5)) h27_5 rfl (e28_5 _ _ _)) F5.l fun a6 u6 h28_6 => ?_
    have F6 := F5.pt u6
    refine wl_p (ex_conv (vx := (.int .u32 r28_5)) (v := (.int .i64 r28_5)) h28_6 (cv_39_2 r28_5 b28_5 _)) F6.l fun a7 u7 h29_7 => ?_
    have F7 := F6.pt u7
    refine wl_p (ex_bin (vx := (.int .i64 1)) (v := (.int .i64 (1 + r28_5 : Nat))) rfl h29_7 (bo_addi2 1 r28_5 _ (by omega))) F7.l fun a8 u8 h30_8 => ?_
    have F8 := F7.pt u8
    have h0_8 := u8.w (u7.w (u6.w (u5.w h0_4)))
    refine wl_p (ex_mv h0_8) F8.l fun a9 u9 h31_9 => ?_
    have F9 := F8.pt u9
    obtain ⟨r32_9, b32_9, e32_9⟩ := u_shr n 9 hn
    refine wl_p (ex_bin (vy := (.int .u64 9)) (v := (.int .u32 r32_9)) h31_9 rfl (e32_9 _ _ _)) F9.l fun a10 u10 h32_10 => ?_
    have F10 := F9.pt u10
    refine wl_p (ex_conv (vx := (.int .u32 r32_9)) (v := (.int .i64 r32_9)) h32_10 (cv_39_2 r32_9 b32_9 _)) F10.l fun a11 u11 h33_11 => ?_
    have F11 := F10.pt u11
    have h3_11 := u11.w (u10.w (u9.w (u8.w (u7.w (u6.w (u5.w (u4.w (u3.w (u2.w (u1.w h3_0))))))))))
    refine wl_p (ex_fb 3 h3_11) F11.l fun a12 u12 h34_12 => ?_
    have F12 := F11.pt u12
    obtain ⟨w1, hr1, B3_1, G1⟩ := st_run (T := 2) (o := 3) (v := (.int .i64 (1 + r28_5 : Nat))) (cs' := #[(.string s.title), (.string s.uri), (.int .i64 s.e), (.int .i64 (1 + r28_5 : Nat)), (.int .i64 s.off), (pto kp), (pto mp), (.bool s.disc), (.string s.date)]) (fun _ => by kernel_rfl) B3_0 rfl (Nat.le_of_ble_eq_true rfl) rfl
    have B2_1 := B2_0.gk G1 hne
    have Kp1 := Kp0.set G1 (Or.inr hg3)
    have sk_1 := sk_0.gk B3_0 (by decide) G1
    have sm_1 := sm_0.gk B3_0 (by decide) G1
    have h30_12 := u12.w (u11.w (u10.w (u9.w h30_8)))
    refine wl_n (ex_st h34_12 h30_12 hr1) ?_
    refine wl_p (ex_fb 4 (u12.w h3_11)) F12.l fun a13 u13 h35_13 => ?_
    have F13 := F12.pt u13
    obtain ⟨w2, hr2, B3_2, G2⟩ := st_run (T := 2) (o := 4) (v := (.int .i64 r32_9)) (cs' := #[(.string s.title), (.string s.uri), (.int .i64 s.e), (.int .i64 (1 + r28_5 : Nat)), (.int .i64 r32_9), (pto kp), (pto mp), (.bool s.disc), (.string s.date)]) (fun _ => by kernel_rfl) B3_1 rfl (Nat.le_of_ble_eq_true rfl) rfl
    have B2_2 := B2_1.gk G2 hne
    have Kp2 := Kp1.set G2 (Or.inr hg3)
    have sk_2 := sk_1.gk B3_1 (by decide) G2
    have sm_2 := sm_1.gk B3_1 (by decide) G2
    refine wl_n (ex_st h35_13 (u13.w (u12.w h33_11)) hr2) ?_
    have h0_13 := u13.w (u12.w (u11.w (u10.w (u9.w h0_8))))
    have h2_13 := u13.w (u12.w (u11.w (u10.w (u9.w (u8.w (u7.w (u6.w (u5.w (u4.w (u3.w (u2.w (u1.w h2_0))))))))))))
    exact hK _ _ ⟨F13, h0_13, h2_13, (u13.w (u12.w h3_11)), B2_2, ⟨{ s with li := (1 + r28_5 : Nat), off := r32_9 }, kp, mp, B3_2, sk_2, sm_2, ok.part (by omega) (by omega)⟩, Kp2, hg2, hg3, hne⟩
theorem sg_key (hn : n < 4294967296) (hJ : JSeg w00 n g2 g3 a0 w0) (hK : ∀ a' w', JSeg w00 n g2 g3 a' w' → Q .normal a' w') : (cat [1, 1, 1, 1, 0] sgB).wp Tryz.prog Q a0 w0 := by
  obtain ⟨F0, h0_0, h2_0, h3_0, B2_0, ⟨s, kp, mp, B3_0, sk_0, sm_0, ok⟩, Kp0, hg2, hg3, hne⟩ := hJ
  change Code.wp _ (Code.seq (Code.region _ _ _) (Code.cond _ _ _)) _ _ _
  refine wp_seq ?_
  refine rg_list ?_
  refine wl_p (ex_mv h0_0) F0.l fun a1 u1 h36_1 => ?_
  have F1 := F0.pt u1
  obtain ⟨r37_1, b37_1, e37_1⟩ := u_shr n 16 hn
  refine wl_p (ex_bin (vy := (.int .u64 16)) (v := (.int .u32 r37_1)) h36_1 rfl (e37_1 _ _ _)) F1.l fun a2 u2 h37_2 => ?_
  have F2 := F1.pt u2
  obtain ⟨r38_2, e38_2⟩ := u_and r37_1 3
  refine wl_p (ex_bin (vy := (.int .u32 3)) (v := (.int .u32 r38_2)) h37_2 rfl (e38_2 _ _ _)) F2.l fun a3 u3 h38_3 => ?_
  have F3 := F2.pt u3
  obtain ⟨q39_3, e39_3⟩ := u_eql r38_2 1
  refine wl_p (ex_bin (vy := (.int .u32 1)) (v := (.bool q39_3)) h38_3 rfl (e39_3 _ _ _)) F3.l fun a4 u4 h39_4 => ?_
  have F4 := F3.pt u4
  change Code.wp _ _ _ _ _
  cases q39_3
  · refine wp_cond_false h39_4 ?_
    refine wp_skip ?_
    have h0_4 := u4.w (u3.w (u2.w (u1.w h0_0)))
    have h2_4 := u4.w (u3.w (u2.w (u1.w h2_0)))
    have h3_4 := u4.w (u3.w (u2.w (u1.w h3_0)))
    exact hK _ _ ⟨F4, h0_4, h2_4, h3_4, B2_0, ⟨s, kp, mp, B3_0, sk_0, sm_0, ok⟩, Kp0, hg2, hg3, hne⟩
  · refine wp_cond_true h39_4 ?_
    refine rg_list ?_
    have h0_4 := u4.w (u3.w (u2.w (u1.w h0_0)))
    refine wl_p (ex_mv h0_4) F4.l fun a5 u5 h40_5 => ?_
    have F5 := F4.pt u5
    obtain ⟨r41_5, b41_5, e41_5⟩ := u_shr n 18 hn
    refine wl_p (ex_bin (vy := (.int .u64 18)) (v := (.int .u32 r41_5)) h40_5 rfl (e41_5 _ _ _)) F5.l fun a6 u6 h41_6 => ?_
    have F6 := F5.pt u6
    refine wl_cl (args := #[(.int .u32 r41_5)]) (R := fun v w' => ∃ kp k, v = pto kp ∧ SKey w' kp k ∧ w0.grownBy w' none) (ex_cl (fun _ _ => by kernel_rfl) (arg1 h41_6)) ((keyOf_any (r41_5 : Int) (by omega) (by have := b41_5; omega) w0).mono fun _ _ ⟨kp, k, h1, h2, h3, _⟩ => ⟨_, h1, kp, k, rfl, h2, h3⟩) F6.l ?_
    rintro v w1 ⟨kp2, k2, rfl, nk_1, G1⟩
    have B2_1 := B2_0.gn G1
    have B3_1 := B3_0.gn G1
    have Kp1 := Kp0.new G1
    have sk_1 := sk_0.gn G1
    have sm_1 := sm_0.gn G1
    intro a7 u7 h42_7
    have F7 := F6.pt u7
    have h3_7 := u7.w (u6.w (u5.w (u4.w (u3.w (u2.w (u1.w h3_0))))))
    refine wl_p (ex_fb 5 h3_7) F7.l fun a8 u8 h43_8 => ?_
    have F8 := F7.pt u8
    obtain ⟨w2, hr2, B3_2, G2⟩ := st_run (T := 40) (o := 5) (v := (pto kp2)) (cs' := #[(.string s.title), (.string s.uri), (.int .i64 s.e), (.int .i64 s.li), (.int .i64 s.off), (pto kp2), (pto mp), (.bool s.disc), (.string s.date)]) (fun _ => by kernel_rfl) B3_1 rfl (Nat.le_of_ble_eq_true rfl) rfl
    have B2_2 := B2_1.gk G2 hne
    have Kp2 := Kp1.set G2 (Or.inr hg3)
    have sk_2 := sk_1.gk B3_1 (by decide) G2
    have sm_2 := sm_1.gk B3_1 (by decide) G2
    have nk_2 := nk_1.gk B3_1 (by decide) G2
    refine wl_n (ex_st h43_8 (u8.w h42_7) hr2) ?_
    clear nk_1
    have h0_8 := u8.w (u7.w (u6.w (u5.w h0_4)))
    have h2_8 := u8.w (u7.w (u6.w (u5.w (u4.w (u3.w (u2.w (u1.w h2_0)))))))
    exact hK _ _ ⟨F8, h0_8, h2_8, (u8.w h3_7), B2_2, ⟨{ s with key := k2 }, kp2, mp, B3_2, nk_2, sm_2, ok.key nk_2.ok_⟩, Kp2, hg2, hg3, hne⟩
theorem sg_map (hn : n < 4294967296) (hJ : JSeg w00 n g2 g3 a0 w0) (hK : ∀ a' w', JSeg w00 n g2 g3 a' w' → Q .normal a' w') : (cat [1, 1, 1, 1, 1, 0] sgB).wp Tryz.prog Q a0 w0 := by
  obtain ⟨F0, h0_0, h2_0, h3_0, B2_0, ⟨s, kp, mp, B3_0, sk_0, sm_0, ok⟩, Kp0, hg2, hg3, hne⟩ := hJ
  change Code.wp _ (Code.seq (Code.region _ _ _) (Code.cond _ _ _)) _ _ _
  refine wp_seq ?_
  refine rg_list ?_
  refine wl_p (ex_mv h0_0) F0.l fun a1 u1 h44_1 => ?_
  have F1 := F0.pt u1
  obtain ⟨r45_1, b45_1, e45_1⟩ := u_shr n 17 hn
  refine wl_p (ex_bin (vy := (.int .u64 17)) (v := (.int .u32 r45_1)) h44_1 rfl (e45_1 _ _ _)) F1.l fun a2 u2 h45_2 => ?_
  have F2 := F1.pt u2
  obtain ⟨r46_2, e46_2⟩ := u_and r45_1 3
  refine wl_p (ex_bin (vy := (.int .u32 3)) (v := (.int .u32 r46_2)) h45_2 rfl (e46_2 _ _ _)) F2.l fun a3 u3 h46_3 => ?_
  have F3 := F2.pt u3
  obtain ⟨q47_3, e47_3⟩ := u_eql r46_2 1
  refine wl_p (ex_bin (vy := (.int .u32 1)) (v := (.bool q47_3)) h46_3 rfl (e47_3 _ _ _)) F3.l fun a4 u4 h47_4 => ?_
  have F4 := F3.pt u4
  change Code.wp _ _ _ _ _
  cases q47_3
  · refine wp_cond_false h47_4 ?_
    refine wp_skip ?_
    have h0_4 := u4.w (u3.w (u2.w (u1.w h0_0)))
    have h2_4 := u4.w (u3.w (u2.w (u1.w h2_0)))
    have h3_4 := u4.w (u3.w (u2.w (u1.w h3_0)))
    exact hK _ _ ⟨F4, h0_4, h2_4, h3_4, B2_0, ⟨s, kp, mp, B3_0, sk_0, sm_0, ok⟩, Kp0, hg2, hg3, hne⟩
  · refine wp_cond_true h47_4 ?_
    refine rg_list ?_
    have h0_4 := u4.w (u3.w (u2.w (u1.w h0_0)))
    refine wl_p (ex_mv h0_4) F4.l fun a5 u5 h48_5 => ?_
    have F5 := F4.pt u5
    obtain ⟨r49_5, b49_5, e49_5⟩ := u_shr n 19 hn
    refine wl_p (ex_bin (vy := (.int .u64 19)) (v := (.int .u32 r49_5)) h48_5 rfl (e49_5 _ _ _)) F5.l fun a6 u6 h49_6 => ?_
    have F6 := F5.pt u6
    refine wl_cl (args := #[(.int .u32 r49_5)]) (R := fun v w' => ∃ kp k, v = pto kp ∧ SMap w' kp k ∧ w0.grownBy w' none) (ex_cl (fun _ _ => by kernel_rfl) (arg1 h49_6)) ((mapOf_any (r49_5 : Int) (by omega) (by have := b49_5; omega) w0).mono fun _ _ ⟨kp, k, h1, h2, h3, _⟩ => ⟨_, h1, kp, k, rfl, h2, h3⟩) F6.l ?_
    rintro v w1 ⟨mp2, k2, rfl, nm_1, G1⟩
    have B2_1 := B2_0.gn G1
    have B3_1 := B3_0.gn G1
    have Kp1 := Kp0.new G1
    have sk_1 := sk_0.gn G1
    have sm_1 := sm_0.gn G1
    intro a7 u7 h50_7
    have F7 := F6.pt u7
    have h3_7 := u7.w (u6.w (u5.w (u4.w (u3.w (u2.w (u1.w h3_0))))))
    refine wl_p (ex_fb 6 h3_7) F7.l fun a8 u8 h51_8 => ?_
    have F8 := F7.pt u8
    obtain ⟨w2, hr2, B3_2, G2⟩ := st_run (T := 41) (o := 6) (v := (pto mp2)) (cs' := #[(.string s.title), (.string s.uri), (.int .i64 s.e), (.int .i64 s.li), (.int .i64 s.off), (pto kp), (pto mp2), (.bool s.disc), (.string s.date)]) (fun _ => by kernel_rfl) B3_1 rfl (Nat.le_of_ble_eq_true rfl) rfl
    have B2_2 := B2_1.gk G2 hne
    have Kp2 := Kp1.set G2 (Or.inr hg3)
    have sk_2 := sk_1.gk B3_1 (by decide) G2
    have sm_2 := sm_1.gk B3_1 (by decide) G2
    have nm_2 := nm_1.gk B3_1 (by decide) G2
    refine wl_n (ex_st h51_8 (u8.w h50_7) hr2) ?_
    clear nm_1
    have h0_8 := u8.w (u7.w (u6.w (u5.w h0_4)))
    have h2_8 := u8.w (u7.w (u6.w (u5.w (u4.w (u3.w (u2.w (u1.w h2_0)))))))
    exact hK _ _ ⟨F8, h0_8, h2_8, (u8.w h3_7), B2_2, ⟨{ s with map := k2 }, kp, mp2, B3_2, sk_2, nm_2, ok.map nm_2.ok_⟩, Kp2, hg2, hg3, hne⟩
theorem sg_date (hn : n < 4294967296) (hJ : JSeg w00 n g2 g3 a0 w0) (hK : ∀ a' w', JSeg w00 n g2 g3 a' w' → Q .normal a' w') : (cat [1, 1, 1, 1, 1, 1, 0] sgB).wp Tryz.prog Q a0 w0 := by
  obtain ⟨F0, h0_0, h2_0, h3_0, B2_0, ⟨s, kp, mp, B3_0, sk_0, sm_0, ok⟩, Kp0, hg2, hg3, hne⟩ := hJ
  change Code.wp _ (Code.seq (Code.region _ _ _) (Code.cond _ _ _)) _ _ _
  refine wp_seq ?_
  refine rg_list ?_
  refine wl_p (ex_mv h0_0) F0.l fun a1 u1 h52_1 => ?_
  have F1 := F0.pt u1
  obtain ⟨r53_1, b53_1, e53_1⟩ := u_shr n 18 hn
  refine wl_p (ex_bin (vy := (.int .u64 18)) (v := (.int .u32 r53_1)) h52_1 rfl (e53_1 _ _ _)) F1.l fun a2 u2 h53_2 => ?_
  have F2 := F1.pt u2
  obtain ⟨r54_2, e54_2⟩ := u_and r53_1 3
  refine wl_p (ex_bin (vy := (.int .u32 3)) (v := (.int .u32 r54_2)) h53_2 rfl (e54_2 _ _ _)) F2.l fun a3 u3 h54_3 => ?_
  have F3 := F2.pt u3
  obtain ⟨q55_3, e55_3⟩ := u_eql r54_2 1
  refine wl_p (ex_bin (vy := (.int .u32 1)) (v := (.bool q55_3)) h54_3 rfl (e55_3 _ _ _)) F3.l fun a4 u4 h55_4 => ?_
  have F4 := F3.pt u4
  change Code.wp _ _ _ _ _
  cases q55_3
  · refine wp_cond_false h55_4 ?_
    refine wp_skip ?_
    have h0_4 := u4.w (u3.w (u2.w (u1.w h0_0)))
    have h2_4 := u4.w (u3.w (u2.w (u1.w h2_0)))
    have h3_4 := u4.w (u3.w (u2.w (u1.w h3_0)))
    exact hK _ _ ⟨F4, h0_4, h2_4, h3_4, B2_0, ⟨s, kp, mp, B3_0, sk_0, sm_0, ok⟩, Kp0, hg2, hg3, hne⟩
  · refine wp_cond_true h55_4 ?_
    refine rg_list ?_
    have h0_4 := u4.w (u3.w (u2.w (u1.w h0_0)))
    refine wl_p (ex_mv h0_4) F4.l fun a5 u5 h56_5 => ?_
    have F5 := F4.pt u5
    obtain ⟨r57_5, b57_5, e57_5⟩ := u_shr n 20 hn
    refine wl_p (ex_bin (vy := (.int .u64 20)) (v := (.int .u32 r57_5)) h56_5 rfl (e57_5 _ _ _)) F5.l fun a6 u6 h57_6 => ?_
    have F6 := F5.pt u6
    obtain ⟨r58_6, b58_6, e58_6⟩ := u_rem r57_5 80 (by decide) (by decide)
    refine wl_p (ex_bin (vy := (.int .u32 80)) (v := (.int .u32 r58_6)) h57_6 rfl (e58_6 _ _ _)) F6.l fun a7 u7 h58_7 => ?_
    have F7 := F6.pt u7
    obtain ⟨r59_7, b59_7, e59_7⟩ := u_add 10 r58_6 (by omega)
    refine wl_p (ex_bin (vx := (.int .u32 10)) (v := (.int .u32 r59_7)) rfl h58_7 (e59_7 _ _ _)) F7.l fun a8 u8 h59_8 => ?_
    have F8 := F7.pt u8
    refine wl_p (ex_conv (vx := (.int .u32 r59_7)) (v := (.int .u64 r59_7)) h59_8 (cv_39_25 r59_7 (by omega) _)) F8.l fun a9 u9 h60_9 => ?_
    have F9 := F8.pt u9
    refine wl_cl (args := #[(.int .u64 r59_7)]) (R := fun v w' => v = .string (bs (Lib.decDigits (r59_7 : Int).toNat)) ∧ w0 = w') (ex_cl (fun _ _ => by kernel_rfl) (arg1 h60_9)) ((decimal_any (r59_7 : Int) w0 (by omega) (by have := (by omega); omega)).mono fun _ _ h => ⟨_, h.1, rfl, h.2⟩) F9.l ?_
    rintro v w' ⟨rfl, rfl⟩
    intro a10 u10 h61_10
    have F10 := F9.pt u10
    have hdd : (Lib.decDigits (r59_7 : Int).toNat).length ≤ 10 := decDigits_len 10 _ (by have := (by omega); omega) (by decide)
    refine wl_p (ex_bin (vx := (.string { data := #[50, 48] })) (v := (.string (bs (([50, 48] : List UInt8) ++ (Lib.decDigits (r59_7 : Int).toNat))))) rfl h61_10 (bo_adds ([50, 48] : List UInt8) (Lib.decDigits (r59_7 : Int).toNat) _ (by simp only [List.length_append, List.length_cons, List.length_nil]; omega))) F10.l fun a11 u11 h62_11 => ?_
    have F11 := F10.pt u11
    refine wl_p (ex_bin (vy := (.string { data := #[45, 48, 49, 45, 48, 50, 84, 48, 51, 58, 48, 52, 58, 48, 53, 46, 54, 55, 56, 43, 48, 49, 58, 48, 48] })) (v := (.string (bs ((([50, 48] : List UInt8) ++ (Lib.decDigits (r59_7 : Int).toNat)) ++ ([45, 48, 49, 45, 48, 50, 84, 48, 51, 58, 48, 52, 58, 48, 53, 46, 54, 55, 56, 43, 48, 49, 58, 48, 48] : List UInt8))))) h62_11 rfl (bo_adds (([50, 48] : List UInt8) ++ (Lib.decDigits (r59_7 : Int).toNat)) ([45, 48, 49, 45, 48, 50, 84, 48, 51, 58, 48, 52, 58, 48, 53, 46, 54, 55, 56, 43, 48, 49, 58, 48, 48] : List UInt8) _ (by simp only [List.length_append, List.length_cons, List.length_nil]; omega))) F11.l fun a12 u12 h63_12 => ?_
    have F12 := F11.pt u12
    have h3_12 := u12.w (u11.w (u10.w (u9.w (u8.w (u7.w (u6.w (u5.w (u4.w (u3.w (u2.w (u1.w h3_0)))))))))))
    refine wl_p (ex_fb 8 h3_12) F12.l fun a13 u13 h64_13 => ?_
    have F13 := F12.pt u13
    obtain ⟨w1, hr1, B3_1, G1⟩ := st_run (T := 9) (o := 8) (v := (.string (bs ((([50, 48] : List UInt8) ++ (Lib.decDigits (r59_7 : Int).toNat)) ++ ([45, 48, 49, 45, 48, 50, 84, 48, 51, 58, 48, 52, 58, 48, 53, 46, 54, 55, 56, 43, 48, 49, 58, 48, 48] : List UInt8))))) (cs' := #[(.string s.title), (.string s.uri), (.int .i64 s.e), (.int .i64 s.li), (.int .i64 s.off), (pto kp), (pto mp), (.bool s.disc), (.string (bs ((([50, 48] : List UInt8) ++ (Lib.decDigits (r59_7 : Int).toNat)) ++ ([45, 48, 49, 45, 48, 50, 84, 48, 51, 58, 48, 52, 58, 48, 53, 46, 54, 55, 56, 43, 48, 49, 58, 48, 48] : List UInt8))))]) (fun _ => by kernel_rfl) B3_0 rfl (Nat.le_of_ble_eq_true rfl) rfl
    have B2_1 := B2_0.gk G1 hne
    have Kp1 := Kp0.set G1 (Or.inr hg3)
    have sk_1 := sk_0.gk B3_0 (by decide) G1
    have sm_1 := sm_0.gk B3_0 (by decide) G1
    refine wl_n (ex_st h64_13 (u13.w h63_12) hr1) ?_
    have h0_13 := u13.w (u12.w (u11.w (u10.w (u9.w (u8.w (u7.w (u6.w (u5.w h0_4))))))))
    have h2_13 := u13.w (u12.w (u11.w (u10.w (u9.w (u8.w (u7.w (u6.w (u5.w (u4.w (u3.w (u2.w (u1.w h2_0))))))))))))
    exact hK _ _ ⟨F13, h0_13, h2_13, (u13.w h3_12), B2_1, ⟨{ s with date := bs ((([50, 48] : List UInt8) ++ (Lib.decDigits (r59_7 : Int).toNat)) ++ ([45, 48, 49, 45, 48, 50, 84, 48, 51, 58, 48, 52, 58, 48, 53, 46, 54, 55, 56, 43, 48, 49, 58, 48, 48] : List UInt8)) }, kp, mp, B3_1, sk_1, sm_1, ok.date (by have := hdd; rw [size_bs]; simp only [List.length_append, List.length_cons, List.length_nil]; omega)⟩, Kp1, hg2, hg3, hne⟩
end
theorem sg_end {w00 w0 : World} {n g2 g3 : Nat} {a0 : Act} (hn : n < 4294967296) (hJ : JSeg w00 n g2 g3 a0 w0) : (cat [1, 1, 1, 1, 1, 1, 1] sgB).wp Tryz.prog (fun e a w => bodyPost Tryz.prog Tryz.f22 (fun e w' => ∃ s kp mp, e = .returned (.agg (ssegC s kp mp)) ∧ SKey w' kp s.key ∧ SMap w' mp s.map ∧ SegOk s ∧ w00.grownBy w' none) e a w) a0 w0 := by
  change Code.wp _ (Code.seq _ _) _ _ _
  obtain ⟨F0, h0_0, h2_0, h3_0, B2_0, ⟨s, kp, mp, B3_0, sk_0, sm_0, ok⟩, Kp0, hg2, hg3, hne⟩ := hJ
  refine wp_seq ?_
  refine rg_list ?_
  refine wl_p (ex_lda h3_0 (ld_agg (n := 9) (xs := #[(.string s.title), (.string s.uri), (.int .i64 s.e), (.int .i64 s.li), (.int .i64 s.off), (pto kp), (pto mp), (.bool s.disc), (.string s.date)]) (fun _ => by kernel_rfl) (fun _ => by kernel_rfl) B3_0 rfl (fun _ _ => by rw [Nat.zero_add]; rfl))) F0.l fun a1 u1 (h65_1 : a1.tmps.getD 65 undef = (.agg #[(.string s.title), (.string s.uri), (.int .i64 s.e), (.int .i64 s.li), (.int .i64 s.off), (pto kp), (pto mp), (.bool s.disc), (.string s.date)])) => ?_
  have F1 := F0.pt u1
  obtain ⟨w1, hr1, B2_1, G1⟩ := sta_run (T := 53) (cs := #[(.string s.title), (.string s.uri), (.int .i64 s.e), (.int .i64 s.li), (.int .i64 s.off), (pto kp), (pto mp), (.bool s.disc), (.string s.date)]) (fun _ => by kernel_rfl) B2_0 rfl rfl (by first | exact one_ssegC _ _ _ | simp [Value.oneCell'])
  have B3_1 := B3_0.gk G1 (Ne.symm hne)
  have Kp1 := Kp0.set G1 (Or.inr hg2)
  have sk_1 := sk_0.gk B2_0 (by decide) G1
  have sm_1 := sm_0.gk B2_0 (by decide) G1
  refine wl_n (ex_st (u1.w h2_0) h65_1 hr1) ?_
  refine wp_ret ?_
  try simp only [Exit.then, Exit.inBlock]
  exact bodyPost_ret (v := .agg #[(.string s.title), (.string s.uri), (.int .i64 s.e), (.int .i64 s.li), (.int .i64 s.off), (pto kp), (pto mp), (.bool s.disc), (.string s.date)]) (results_cell_row rfl _ _ _ _ _ _ _ (u1.w h2_0) B2_1 Tryz.underlying53 rfl (by kernel_rfl)) F1.defers ⟨s, kp, mp, rfl, sk_1, sm_1, ok, Kp1.grown⟩
theorem segmentOf_any (n : Nat) (hn : n < 4294967296) (w0 : World) : Calls Tryz.prog 22 #[.int .u32 n] w0 fun e w' => ∃ s kp mp, e = .returned (.agg (ssegC s kp mp)) ∧ SKey w' kp s.key ∧ SMap w' mp s.map ∧ SegOk s ∧ w0.grownBy w' none := by
  refine calls_of_wp Tryz.func22 rfl ?_
  generalize hA : Act.mk _ _ = a0
  have F0 : Fz 66 a0 := by subst hA; exact ⟨by simp [Tryz.ntmps22], rfl⟩
  have h0_0 : a0.tmps.getD 0 undef = (.int .u32 n) := by subst hA; exact fr_arg rfl
  clear hA
  have Kp0 := Kp.refl [] w0
  change Code.wp _ (Code.seq _ _) _ _ _
  refine wp_seq ?_
  refine rg_list ?_
  obtain ⟨g2, hg2⟩ : ∃ g, w0.heap.size = g := ⟨_, rfl⟩
  have ge_2 : w0.heap.size ≤ g2 := by have := Kp0.size; omega
  obtain ⟨w1, hr1, B2_1, G1, hs1⟩ := al_run (op := Instr.alloc 53 true (.tuple #[])) (T := 53) (cs := #[(.string ⟨#[]⟩), (.string ⟨#[]⟩), (.int .i64 0), (.int .i64 0), (.int .i64 0), (.pointer none), (.pointer none), (.bool false), (.string ⟨#[]⟩)]) hg2 (fun _ => by kernel_rfl)
  have Kp1 := Kp0.new G1
  refine wl_p (ex_al hr1) F0.l fun a1 u1 (h2_1 : a1.tmps.getD 2 undef = (.pointer (some ⟨g2, 0, none⟩))) => ?_
  have F1 := F0.pt u1
  change Code.wp _ (Code.seq _ _) _ _ _
  refine wp_seq ?_
  refine rg_list ?_
  refine wl_p (ex_mv (u1.w h0_0)) F1.l fun a2 u2 h4_2 => ?_
  have F2 := F1.pt u2
  refine wl_cl (args := #[(.int .u32 n)]) (R := fun v w' => (∃ x : ByteArray, v = .string x ∧ x.size ≤ 18) ∧ w1 = w') (ex_cl (fun _ _ => by kernel_rfl) (arg1 h4_2)) ((uriOf_any (n : Int) (by omega) (by have := hn; omega) w1).mono fun _ _ ⟨⟨x, h1, h2⟩, h3⟩ => ⟨_, h1, ⟨x, rfl, h2⟩, h3⟩) F2.l ?_
  rintro v w' ⟨⟨x5_2, rfl, z5_2⟩, rfl⟩
  intro a3 u3 h5_3
  have F3 := F2.pt u3
  have h0_3 := u3.w (u2.w (u1.w h0_0))
  refine wl_p (ex_mv h0_3) F3.l fun a4 u4 h6_4 => ?_
  have F4 := F3.pt u4
  obtain ⟨r7_4, b7_4, e7_4⟩ := u_shr n 4 hn
  refine wl_p (ex_bin (vy := (.int .u64 4)) (v := (.int .u32 r7_4)) h6_4 rfl (e7_4 _ _ _)) F4.l fun a5 u5 h7_5 => ?_
  have F5 := F4.pt u5
  obtain ⟨r8_5, b8_5, e8_5⟩ := u_rem r7_4 160 (by decide) (by decide)
  refine wl_p (ex_bin (vy := (.int .u32 160)) (v := (.int .u32 r8_5)) h7_5 rfl (e8_5 _ _ _)) F5.l fun a6 u6 h8_6 => ?_
  have F6 := F5.pt u6
  refine wl_p (ex_conv (vx := (.int .u32 r8_5)) (v := (.int .i64 r8_5)) h8_6 (cv_39_3 r8_5 (Nat.lt_trans b8_5 (by decide)) _)) F6.l fun a7 u7 h9_7 => ?_
  have F7 := F6.pt u7
  have h0_7 := u7.w (u6.w (u5.w (u4.w h0_3)))
  refine wl_p (ex_mv h0_7) F7.l fun a8 u8 h10_8 => ?_
  have F8 := F7.pt u8
  obtain ⟨r11_8, b11_8, e11_8⟩ := u_shr n 11 hn
  refine wl_p (ex_bin (vy := (.int .u64 11)) (v := (.int .u32 r11_8)) h10_8 rfl (e11_8 _ _ _)) F8.l fun a9 u9 h11_9 => ?_
  have F9 := F8.pt u9
  obtain ⟨r12_9, e12_9⟩ := u_and r11_8 3
  refine wl_p (ex_bin (vy := (.int .u32 3)) (v := (.int .u32 r12_9)) h11_9 rfl (e12_9 _ _ _)) F9.l fun a10 u10 h12_10 => ?_
  have F10 := F9.pt u10
  obtain ⟨q13_10, e13_10⟩ := u_eql r12_9 1
  refine wl_p (ex_bin (vy := (.int .u32 1)) (v := (.bool q13_10)) h12_10 rfl (e13_10 _ _ _)) F10.l fun a11 u11 h13_11 => ?_
  have F11 := F10.pt u11
  have h5_11 := u11.w (u10.w (u9.w (u8.w (u7.w (u6.w (u5.w (u4.w h5_3)))))))
  have h9_11 := u11.w (u10.w (u9.w (u8.w h9_7)))
  refine wl_p (ex_bd (w' := w1) (vs :=  #[(1, (.string x5_2)), (2, (.int .i64 r8_5)), (7, (.bool q13_10))]) (v := (.agg #[(.string ⟨#[]⟩), (.string x5_2), (.int .i64 r8_5), (.int .i64 0), (.int .i64 0), (.pointer none), (.pointer none), (.bool q13_10), (.string ⟨#[]⟩)])) (by have e1 : a11.eval (.tmp 5) = (.string x5_2) := h5_11; have e2 : a11.eval (.tmp 9) = (.int .i64 r8_5) := h9_11; have e7 : a11.eval (.tmp 13) = (.bool q13_10) := h13_11; simp only [List.map_toArray, List.map_cons, List.map_nil, e1, e2, e7]) (by kernel_rfl)) F11.l fun a12 u12 h14_12 => ?_
  have F12 := F11.pt u12
  obtain ⟨g3, hg3⟩ : ∃ g, w1.heap.size = g := ⟨_, rfl⟩
  have ne_2_3 : g2 ≠ g3 := by have := B2_1.lt; omega
  have ge_3 : w0.heap.size ≤ g3 := by have := Kp1.size; omega
  obtain ⟨w2, hr2, B3_2, G2, hs2⟩ := al_run (op := Instr.alloc 53 true (.tuple #[])) (T := 53) (cs := #[(.string ⟨#[]⟩), (.string ⟨#[]⟩), (.int .i64 0), (.int .i64 0), (.int .i64 0), (.pointer none), (.pointer none), (.bool false), (.string ⟨#[]⟩)]) hg3 (fun _ => by kernel_rfl)
  have B2_2 := B2_1.gn G2
  have Kp2 := Kp1.new G2
  refine wl_p (ex_al hr2) F12.l fun a13 u13 (h3_13 : a13.tmps.getD 3 undef = (.pointer (some ⟨g3, 0, none⟩))) => ?_
  have F13 := F12.pt u13
  obtain ⟨w3, hr3, B3_3, G3⟩ := sta_run (T := 53) (cs := #[(.string ⟨#[]⟩), (.string x5_2), (.int .i64 r8_5), (.int .i64 0), (.int .i64 0), (.pointer none), (.pointer none), (.bool q13_10), (.string ⟨#[]⟩)]) (fun _ => by kernel_rfl) B3_2 rfl rfl (by first | exact one_ssegC _ _ _ | simp [Value.oneCell'])
  have B2_3 := B2_2.gk G3 ne_2_3
  have Kp3 := Kp2.set G3 (Or.inr ge_3)
  refine wl_n (ex_st h3_13 (u13.w h14_12) hr3) ?_
  change Code.wp _ _ _ _ _
  have h0_13 := u13.w (u12.w (u11.w (u10.w (u9.w (u8.w h0_7)))))
  have h2_13 := u13.w (u12.w (u11.w (u10.w (u9.w (u8.w (u7.w (u6.w (u5.w (u4.w (u3.w (u2.w h2_1)))))))))))
  have hJ : JSeg w0 n g2 g3 a13 w3 := ⟨F13, h0_13, h2_13, h3_13, B2_3, ⟨⟨⟨#[]⟩, x5_2, r8_5, 0, 0, none, none, q13_10, ⟨#[]⟩⟩, none, none, B3_3, .nil, .nil, ⟨⟨Nat.le_of_ble_eq_true rfl, Nat.le_trans z5_2 (by decide), Nat.le_of_ble_eq_true rfl, Nat.le_of_ble_eq_true rfl, Nat.le_of_ble_eq_true rfl, fun _ h => (by cases h), fun _ h => (by cases h)⟩, b8_5⟩⟩, Kp3, ge_2, ge_3, ne_2_3⟩
  refine wp_seq (sg_title hn hJ fun a w hJ => (?_ : Code.wp _ _ _ _ _))
  refine wp_seq (sg_part hn hJ fun a w hJ => (?_ : Code.wp _ _ _ _ _))
  refine wp_seq (sg_key hn hJ fun a w hJ => (?_ : Code.wp _ _ _ _ _))
  refine wp_seq (sg_map hn hJ fun a w hJ => (?_ : Code.wp _ _ _ _ _))
  refine wp_seq (sg_date hn hJ fun a w hJ => (?_ : Code.wp _ _ _ _ _))
  exact sg_end hn hJ
end Go.Proofs.YtlphcidpaidclaaGreatDoor
namespace Go.Proofs.YtlphcidpaidclaaGreatDoor
open Go.RowKit
set_option maxRecDepth 100000

/-- a loop that counts to m in slot si -/
theorem loop_n {id si m : Nat} {c : Code} {Q : Exit → Act → World → Prop} {a : Act} {w : World} (I : Nat → Act → World → Prop) (h0 : I 0 a w) (hi : ∀ j a w, I j a w → a.tmps.getD si undef = .int .i64 j)
    (hr : ∀ j a w, j < m → I j a w → ∀ R : Exit → Act → World → Prop, (∀ a' w', I (j + 1) a' w' → R .normal a' w') → c.wp Tryz.prog R a w) (hx : ∀ a w, I m a w → c.wp Tryz.prog (Exit.then (fun _ _ => False) (Exit.inBlock id Q)) a w) : (Code.block id (Code.loop c)).wp Tryz.prog Q a w := by
  refine wp_block (wp_loop (fun a w => ∃ j, j ≤ m ∧ I j a w) (fun a _ => m - (intOf (a.tmps.getD si undef)).toNat) ⟨0, Nat.zero_le _, h0⟩ ?_)
  rintro a w ⟨j, hj, hI⟩
  by_cases h : j < m
  · refine hr j a w h hI _ fun a' w' h' => ⟨⟨j + 1, h, h'⟩, ?_⟩
    rw [hi _ _ _ h', hi _ _ _ hI]
    simp only [intOf]
    omega
  · obtain rfl : j = m := by omega
    refine Code.wp_mono ?_ (hx a w hI)
    intro e a' w' h'
    cases e <;> first | exact h'.elim | exact h'
theorem sl32_run (ao : Option Addr) (len cap m : Nat) (h : m ≤ len) (hc : len ≤ cap) (w : World) : (Instr.sliceAt 38 (.slice ao len cap) none (some (.int .i64 m)) none).run Tryz.prog w = .ok (.slice ao m cap) w := by
  have h1 : (m : Int) ≤ (cap : Int) := by omega
  simp [go_sem, h1]
theorem min_run {ats : Array TypeId} {ty : TypeId} {cs : Array Bool} (n : Nat) (w : World) : (builtin .min ats ty cs #[.int .i64 n, .int .i64 12]).run Tryz.prog w = .ok (.value (.int .i64 (min n 12 : Nat))) w := by
  rcases Nat.lt_or_ge n 12 with h | h
  · simp [go_sem]
    omega
  · simp [go_sem]
    omega
theorem ix32_run (b off n c j : Nat) (hj : j < n) (w : World) : (Instr.indexAt 38 (.slice (some ⟨b, off, none⟩) n c) (.int .i64 j)).run Tryz.prog w = .ok (.pointer (some ⟨b, off + j, none⟩)) w := by
  have h1 : (j : Int) < (n : Int) := by omega
  have h2 : (0 : Int) ≤ (j : Int) := by omega
  simp [go_sem, h1, h2]
section
variable {x y : Operand}
theorem bo_lssn (m n : Nat) (w : World) : (do eqGuard .lss 3 x y (.int .i64 m) (.int .i64 n); binOp .lss 3 (.int .i64 m) (.int .i64 n) : Sem Value).run Tryz.prog w = .ok (.bool (decide (m < n))) w := by
  rw [bo_lssi, show decide ((m : Int) < n) = decide (m < n) from decide_eq_decide.2 (by omega)]
theorem bo_lss_yes (m n : Nat) (h : m < n) (w : World) : (do eqGuard .lss 3 x y (.int .i64 m) (.int .i64 n); binOp .lss 3 (.int .i64 m) (.int .i64 n) : Sem Value).run Tryz.prog w = .ok (.bool true) w := by
  rw [bo_lssn, decide_eq_true h]
theorem bo_lss_no (n : Nat) (w : World) : (do eqGuard .lss 3 x y (.int .i64 n) (.int .i64 n); binOp .lss 3 (.int .i64 n) (.int .i64 n) : Sem Value).run Tryz.prog w = .ok (.bool false) w := by
  rw [bo_lssn, decide_eq_false (by omega)]
end
/-- numbers of 32 bits in a slice -/
structure U32s (w : World) (ao : Option Addr) (b off len cap : Nat) (zs : Nat → Nat) : Prop where
  at_ : 0 < len → ao = some ⟨b, off, none⟩ ∧ b < w.heap.size
  hlen : len ≤ 100
  hcap : len ≤ cap
  cell : ∀ j, j < len → w.cell? ⟨b, off + j, none⟩ = some (.int .u32 (zs j))
  lt : ∀ j, zs j < 4294967296
theorem U32s.kp {w w' : World} {ao : Option Addr} {b off len cap : Nat} {zs : Nat → Nat} (h : U32s w ao b off len cap zs) (K : Kp [] w w') {j : Nat} (hj : j < len) : w'.cell? ⟨b, off + j, none⟩ = some (.int .u32 (zs j)) := by
  rw [← h.cell j hj]
  have hb := (h.at_ (by omega)).2
  exact K.below.cell (p := ⟨b, off + j, none⟩) hb
end Go.Proofs.YtlphcidpaidclaaGreatDoor
namespace Go.Proofs.YtlphcidpaidclaaGreatDoor
open Go.RowKit
set_option maxRecDepth 100000

def headB (ops : Array Oper) : List Nat → Array Bool → Bool
  | [], _ => true
  | i :: is, l => (Region.ready .any ops l).contains i && Region.free .any ops l i && headB ops is (l.setIfInBounds i true)
/-- what holds while the rest comes up -/
def Tree (ops : Array Oper) (S : World → Prop) (K : Act → World → Prop) (n : Nat) (l : Array Bool) (a : Act) (w : World) : Prop := wpAnyH Tryz.prog .any ops (normalOnly K) S n l a w
section
variable {ops : Array Oper} {S : World → Prop} {K : Act → World → Prop} {a : Act} {w w' : World} {n j : Nat} {l : Array Bool}
theorem tree_head (hs : Region.noSelect ops = true) : ∀ (is : List Nat) (l : Array Bool) (a : Act) (w : World), (∀ i ∈ is, i < ops.size) → headB ops is l = true → S w →
    wpHead ops S (fun a' => Tree ops S K n (is.foldl (fun l i => l.setIfInBounds i true) l) a' w) (is.filterMap (ops[·]?)) a → Tree ops S K (is.length + n) l a w
  | [], l, a, w, _, _, _, h => by
    rw [List.length_nil, Nat.zero_add]; exact h
  | i :: is, l, a, w, hi, hB, hS, h => by
    have hii := hi i List.mem_cons_self
    have h0 : ops[i]? = some ops[i] := Array.getElem?_eq_getElem hii
    simp only [headB, Bool.and_eq_true] at hB
    obtain ⟨⟨hr, hf⟩, hB'⟩ := hB
    rw [List.filterMap_cons_some h0] at h
    obtain ⟨v, hy, h⟩ := h
    rw [List.length_cons, Nat.add_right_comm]
    refine wpAnyH_take h0 hs hf hr (fun _ _ _ h => h) hy hS ?_
    exact tree_head hs is _ _ _ (fun x hx => hi x (List.mem_cons_of_mem _ hx)) hB' hS h
theorem rg_tree {id : Nat} {ol : List Oper} {Q : Exit → Act → World → Prop} {a : Act} {w w1 : World} (is : List Nat) (n : Nat) (hw : w1 = w.drew) (hn : is.length + n = ol.length ∧ ∀ i ∈ is, i < ol.length) (hm : Tryz.prog.follows .mixedOrders = true) (hs : Region.noSelect ol.toArray = true) (hB : headB ol.toArray is (Array.replicate ol.toArray.size false) = true)
    (hS : S w1) (h : wpHead ol.toArray S (fun a' => Tree ol.toArray S (fun a' w' => Q .normal a' w') n (is.foldl (fun l i => l.setIfInBounds i true) (Array.replicate ol.toArray.size false)) a' w1) (is.filterMap (ol.toArray[·]?)) a) : (Code.region id ol.toArray true).wp Tryz.prog Q a w := by
  subst hw
  have := tree_head (ops := ol.toArray) (K := fun a' w' => Q .normal a' w') (n := n) hs is (Array.replicate ol.toArray.size false) a w.drew (by simpa using hn.2) hB hS h
  rw [hn.1] at this
  refine Code.wp_mono ?_ (wp_region_held hm (S := S) (Q := normalOnly fun a' w' => Q .normal a' w') (by simpa [Tree] using this))
  intro e a w h
  cases e <;> first | exact h | exact h.elim
/-- behind one operation -/
def TK (ops : Array Oper) (S : World → Prop) (K : Act → World → Prop) (n j : Nat) (l : Array Bool) (a : Act) (w : World) : Prop :=
  wpOp Tryz.prog ops (normalOnly K) j (fun a' w' => S w' ∧ wpAnyH Tryz.prog .any ops (normalOnly K) S n (l.setIfInBounds j true) a' w') a w
theorem tree1 (hr : Region.ready .any ops l = [j]) (h : TK ops S K n j l a w) : Tree ops S K (n + 1) l a w :=
  wpAnyH_all hr (by simp) fun i hi => by obtain rfl : i = j := by simpa using hi
                                         exact h
theorem tree2 {k : Nat} (hr : Region.ready .any ops l = [j, k]) (h : TK ops S K n j l a w) (h2 : TK ops S K n k l a w) : Tree ops S K (n + 1) l a w :=
  wpAnyH_all hr (by simp) fun i hi => by
    rcases List.mem_cons.1 hi with rfl | hi
    · exact h
    · obtain rfl : i = k := by simpa using hi
      exact h2
theorem tree3 {k m : Nat} (hr : Region.ready .any ops l = [j, k, m]) (h : TK ops S K n j l a w) (h2 : TK ops S K n k l a w) (h3 : TK ops S K n m l a w) : Tree ops S K (n + 1) l a w :=
  wpAnyH_all hr (by simp) fun i hi => by
    rcases List.mem_cons.1 hi with rfl | hi
    · exact h
    · rcases List.mem_cons.1 hi with rfl | hi
      · exact h2
      · obtain rfl : i = m := by simpa using hi
        exact h3
theorem tree0 (hr : Region.ready .any ops l = []) (h : K a w) : Tree ops S K n l a w := wpAnyH_done hr h n
variable {v : Value} {d : Tmp} {op : Op} {ty : TypeId} {p : String} {af : Array Edge} {f : FuncId} {args : Array Value} {R : Value → World → Prop}
theorem tree_take (h0 : ops[j]? = some ⟨some d, op, ty, p, af, none⟩) (hs : Region.noSelect ops = true) (hf : Region.free .any ops l j = true) (hr : (Region.ready .any ops l).contains j = true) (hrun : ∀ w, S w → (execOp a.eval ⟨some d, op, ty, p, af, none⟩).run Tryz.prog w = .ok (.value v) w) (hS : S w) (hsz : d < a.tmps.size)
    (hK : ∀ a', Pt d a a' → a'.tmps.getD d undef = v → Tree ops S K n (l.setIfInBounds j true) a' w) : Tree ops S K (n + 1) l a w :=
  wpAnyH_take h0 hs hf hr (fun _ _ _ h => h) (.inl ⟨by simp [Region.wanted], hrun⟩) hS (hK _ (Pt.put _ _ _) (put_get _ hsz))
theorem tk_p (h0 : ops[j]? = some ⟨some d, op, ty, p, af, none⟩) (hrun : (execOp a.eval ⟨some d, op, ty, p, af, none⟩).run Tryz.prog w = .ok (.value v) w') (hS : S w') (hsz : d < a.tmps.size) (hK : ∀ a', Pt d a a' → a'.tmps.getD d undef = v → Tree ops S K n (l.setIfInBounds j true) a' w') : TK ops S K n j l a w := by
  unfold TK wpOp
  simp only [h0]
  rw [if_pos (by simp [Region.wanted])]
  refine .inl ?_
  unfold Oper.wp
  rw [hrun]
  exact ⟨hS, hK _ (Pt.put _ _ _) (put_get _ hsz)⟩
theorem tk_n (h0 : ops[j]? = some ⟨none, op, ty, p, af, none⟩) (hrun : (execOp a.eval ⟨none, op, ty, p, af, none⟩).run Tryz.prog w = .ok .skip w') (hS : S w') (hK : Tree ops S K n (l.setIfInBounds j true) a w') : TK ops S K n j l a w := by
  unfold TK wpOp
  simp only [h0]
  rw [if_pos (by simp [Region.wanted])]
  refine .inl ?_
  unfold Oper.wp
  rw [hrun]
  exact ⟨hS, hK⟩
theorem tk_cl (h0 : ops[j]? = some ⟨some d, op, ty, p, af, none⟩) (hrun : (execOp a.eval ⟨some d, op, ty, p, af, none⟩).run Tryz.prog w = .ok (.enter f args) w) (hC : Calls Tryz.prog f args w fun e w'' => ∃ v, e = .returned v ∧ R v w'') (hsz : d < a.tmps.size)
    (hK : ∀ v w'', R v w'' → S w'' ∧ ∀ a', Pt d a a' → a'.tmps.getD d undef = v → Tree ops S K n (l.setIfInBounds j true) a' w'') : TK ops S K n j l a w := by
  unfold TK wpOp
  simp only [h0]
  rw [if_pos (by simp [Region.wanted])]
  refine .inl ?_
  unfold Oper.wp
  rw [hrun]
  refine hC.mono ?_
  rintro e w'' ⟨v, rfl, hR⟩
  exact ⟨(hK v w'' hR).1, (hK v w'' hR).2 _ (Pt.put _ _ _) (put_get _ hsz)⟩
end
end Go.Proofs.YtlphcidpaidclaaGreatDoor
