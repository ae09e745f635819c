/-
  mediaOf: a playlist by numbers.
-/
import Derived.Test.YtlphcidpaidclaaGreatDoorSgo
namespace Go.Proofs.YtlphcidpaidclaaGreatDoor
open Go.RowKit
set_option maxRecDepth 100000
noncomputable def mdB : Code := Tryz.f8.body.getD .skip
structure JMed (w0 : World) (lv : Value) (n g4 g5 : Nat) (cnt : Nat) (a : Act) (w : World) : Prop where
  fz : Fz 76 a
  t0 : a.tmps.getD 0 undef = lv
  t1 : a.tmps.getD 1 undef = .int .u32 n
  t4 : a.tmps.getD 4 undef = .pointer (some ⟨g4, 0, none⟩)
  t5 : a.tmps.getD 5 undef = .pointer (some ⟨g5, 0, none⟩)
  b4 : Blk w g4 44 #[(.int .i64 0), (.int .i64 0), (.int .u64 0), (.int .u64 0), (.int .i64 0), (.int .i64 0), (.bool false), (.bool false), (.bool false), (.pointer none), (.pointer none), (.slice none 0 0)]
  b5 : ∃ m sv segs, Blk w g5 44 (medC m none none sv) ∧ m.Ok ∧ SRow w w0.heap.size sv segs ∧ (∀ s ∈ segs, SegOk s) ∧ segs.length = cnt
  kp : Kp [] w0 w
  h4 : w0.heap.size ≤ g4
  h5 : w0.heap.size ≤ g5
  ne : g4 ≠ g5
theorem SRow.one {w : World} {base : Nat} {v : Value} {segs : List SegD} (h : SRow w base v segs) : v.oneCell' = true := by
  obtain ⟨xs, ⟨h1, h2⟩, h3⟩ := h
  rcases h2 with ⟨rfl, h2⟩ | ⟨r, cap, cur, rfl, _⟩ <;> rfl
theorem one_medC (m : MedD) (kp mp : Option Nat) (sv : Value) (h : sv.oneCell' = true) : ∀ v ∈ (medC m kp mp sv).toList, v.oneCell' = true := by
  intro v hv
  simp only [medC, List.mem_cons, List.not_mem_nil, or_false] at hv
  rcases hv with rfl | rfl | rfl | rfl | rfl | rfl | rfl | rfl | rfl | rfl | rfl | rfl <;> first | rfl | exact pto_one _ | exact h
section
variable {w00 w0 w : World} {lv : Value} {n g4 g5 : Nat} {a0 : Act} {Q : Exit → Act → World → Prop}

theorem md_start {cnt : Nat} (hn : n < 4294967296) (hJ : JMed w00 lv n g4 g5 cnt a0 w0) (hK : ∀ a' w', JMed w00 lv n g4 g5 cnt a' w' → Q .normal a' w') : (cat [1, 1, 0] mdB).wp Tryz.prog Q a0 w0 := by
  obtain ⟨F0, h0_0, h1_0, h4_0, h5_0, B4_0, ⟨m, sv, segs, B5_0, ok, R_0, hsg, hcnt⟩, Kp0, hg4, hg5, hne⟩ := hJ
  change Code.wp _ (Code.seq (Code.region _ _ _) (Code.cond _ _ _)) _ _ _
  refine wp_seq ?_
  refine rg_list ?_
  refine wl_p (ex_mv h1_0) F0.l fun a1 u1 h32_1 => ?_
  have F1 := F0.pt u1
  obtain ⟨r33_1, b33_1, e33_1⟩ := u_shr n 10 hn
  refine wl_p (ex_bin (vy := (.int .u64 10)) (v := (.int .u32 r33_1)) h32_1 rfl (e33_1 _ _ _)) F1.l fun a2 u2 h33_2 => ?_
  have F2 := F1.pt u2
  obtain ⟨r34_2, e34_2⟩ := u_and r33_1 1
  refine wl_p (ex_bin (vy := (.int .u32 1)) (v := (.int .u32 r34_2)) h33_2 rfl (e34_2 _ _ _)) F2.l fun a3 u3 h34_3 => ?_
  have F3 := F2.pt u3
  obtain ⟨q35_3, e35_3⟩ := u_eql r34_2 1
  refine wl_p (ex_bin (vy := (.int .u32 1)) (v := (.bool q35_3)) h34_3 rfl (e35_3 _ _ _)) F3.l fun a4 u4 h35_4 => ?_
  have F4 := F3.pt u4
  change Code.wp _ _ _ _ _
  cases q35_3
  · refine wp_cond_false h35_4 ?_
    refine wp_skip ?_
    have h0_4 := u4.w (u3.w (u2.w (u1.w h0_0)))
    have h1_4 := u4.w (u3.w (u2.w (u1.w h1_0)))
    have h4_4 := u4.w (u3.w (u2.w (u1.w h4_0)))
    have h5_4 := u4.w (u3.w (u2.w (u1.w h5_0)))
    exact hK _ _ ⟨F4, h0_4, h1_4, h4_4, h5_4, B4_0, ⟨m, sv, segs, B5_0, ok, R_0, hsg, hcnt⟩, Kp0, hg4, hg5, hne⟩
  · refine wp_cond_true h35_4 ?_
    refine rg_list ?_
    have h1_4 := u4.w (u3.w (u2.w (u1.w h1_0)))
    refine wl_p (ex_mv h1_4) F4.l fun a5 u5 h36_5 => ?_
    have F5 := F4.pt u5
    obtain ⟨r37_5, b37_5, e37_5⟩ := u_shr n 12 hn
    refine wl_p (ex_bin (vy := (.int .u64 12)) (v := (.int .u32 r37_5)) h36_5 rfl (e37_5 _ _ _)) F5.l fun a6 u6 h37_6 => ?_
    have F6 := F5.pt u6
    obtain ⟨r38_6, b38_6, e38_6⟩ := u_rem r37_5 300 (by decide) (by decide)
    refine wl_p (ex_bin (vy := (.int .u32 300)) (v := (.int .u32 r38_6)) h37_6 rfl (e38_6 _ _ _)) F6.l fun a7 u7 h38_7 => ?_
    have F7 := F6.pt u7
    refine wl_p (ex_conv (vx := (.int .u32 r38_6)) (v := (.int .i64 r38_6)) h38_7 (cv_39_3 r38_6 (Nat.lt_trans b38_6 (by decide)) _)) F7.l fun a8 u8 h39_8 => ?_
    have F8 := F7.pt u8
    refine wl_p (ex_bin (vx := (.int .i64 1)) (v := (.int .i64 (1 + r38_6 : Nat))) rfl h39_8 (bo_addi3 1 r38_6 _ (by omega))) F8.l fun a9 u9 h40_9 => ?_
    have F9 := F8.pt u9
    have h1_9 := u9.w (u8.w (u7.w (u6.w (u5.w h1_4))))
    refine wl_p (ex_mv h1_9) F9.l fun a10 u10 h41_10 => ?_
    have F10 := F9.pt u10
    obtain ⟨r42_10, b42_10, e42_10⟩ := u_shr n 11 hn
    refine wl_p (ex_bin (vy := (.int .u64 11)) (v := (.int .u32 r42_10)) h41_10 rfl (e42_10 _ _ _)) F10.l fun a11 u11 h42_11 => ?_
    have F11 := F10.pt u11
    obtain ⟨r43_11, e43_11⟩ := u_and r42_10 1
    refine wl_p (ex_bin (vy := (.int .u32 1)) (v := (.int .u32 r43_11)) h42_11 rfl (e43_11 _ _ _)) F11.l fun a12 u12 h43_12 => ?_
    have F12 := F11.pt u12
    obtain ⟨q44_12, e44_12⟩ := u_eql r43_11 1
    refine wl_p (ex_bin (vy := (.int .u32 1)) (v := (.bool q44_12)) h43_12 rfl (e44_12 _ _ _)) F12.l fun a13 u13 h44_13 => ?_
    have F13 := F12.pt u13
    have h5_13 := u13.w (u12.w (u11.w (u10.w (u9.w (u8.w (u7.w (u6.w (u5.w (u4.w (u3.w (u2.w (u1.w h5_0))))))))))))
    refine wl_p (ex_fb 5 h5_13) F13.l fun a14 u14 h45_14 => ?_
    have F14 := F13.pt u14
    obtain ⟨w1, hr1, B5_1, G1⟩ := st_run (T := 3) (o := 5) (v := (.int .i64 (1 + r38_6 : Nat))) (cs' := #[(.int .i64 m.ver), (.int .i64 m.td), (.int .u64 m.seq), (.int .u64 m.dsq), (.int .i64 m.ty), (.int .i64 (1 + r38_6 : Nat)), (.bool m.pre), (.bool m.ifr), (.bool m.clo), (pto none), (pto none), sv]) (fun _ => by kernel_rfl) B5_0 rfl (Nat.le_of_ble_eq_true rfl) rfl
    have B4_1 := B4_0.gk G1 hne
    have Kp1 := Kp0.set G1 (Or.inr hg5)
    have R_1 := R_0.gk B5_0 (by decide) (by decide) (by decide) G1
    have h40_14 := u14.w (u13.w (u12.w (u11.w (u10.w h40_9))))
    refine wl_n (ex_st h45_14 h40_14 hr1) ?_
    refine wl_p (ex_fb 6 (u14.w h5_13)) F14.l fun a15 u15 h46_15 => ?_
    have F15 := F14.pt u15
    obtain ⟨w2, hr2, B5_2, G2⟩ := st_run (T := 4) (o := 6) (v := (.bool q44_12)) (cs' := #[(.int .i64 m.ver), (.int .i64 m.td), (.int .u64 m.seq), (.int .u64 m.dsq), (.int .i64 m.ty), (.int .i64 (1 + r38_6 : Nat)), (.bool q44_12), (.bool m.ifr), (.bool m.clo), (pto none), (pto none), sv]) (fun _ => by kernel_rfl) B5_1 rfl (Nat.le_of_ble_eq_true rfl) rfl
    have B4_2 := B4_1.gk G2 hne
    have Kp2 := Kp1.set G2 (Or.inr hg5)
    have R_2 := R_1.gk B5_1 (by decide) (by decide) (by decide) G2
    refine wl_n (ex_st h46_15 (u15.w (u14.w h44_13)) hr2) ?_
    have h0_15 := u15.w (u14.w (u13.w (u12.w (u11.w (u10.w (u9.w (u8.w (u7.w (u6.w (u5.w (u4.w (u3.w (u2.w (u1.w h0_0))))))))))))))
    have h1_15 := u15.w (u14.w (u13.w (u12.w (u11.w (u10.w h1_9)))))
    have h4_15 := u15.w (u14.w (u13.w (u12.w (u11.w (u10.w (u9.w (u8.w (u7.w (u6.w (u5.w (u4.w (u3.w (u2.w (u1.w h4_0))))))))))))))
    exact hK _ _ ⟨F15, h0_15, h1_15, h4_15, (u15.w (u14.w h5_13)), B4_2, ⟨{ m with st := (1 + r38_6 : Nat), pre := q44_12 }, sv, segs, B5_2, ⟨ok.ver, ok.td, ok.seq, ok.dsq, ok.ty, by show (1 + r38_6 : Nat) < 301; omega⟩, R_2, hsg, hcnt⟩, Kp2, hg4, hg5, hne⟩
theorem md_dsq {cnt : Nat} (hn : n < 4294967296) (hJ : JMed w00 lv n g4 g5 cnt a0 w0) (hK : ∀ a' w', JMed w00 lv n g4 g5 cnt a' w' → Q .normal a' w') : (cat [1, 1, 1, 0] mdB).wp Tryz.prog Q a0 w0 := by
  obtain ⟨F0, h0_0, h1_0, h4_0, h5_0, B4_0, ⟨m, sv, segs, B5_0, ok, R_0, hsg, hcnt⟩, Kp0, hg4, hg5, hne⟩ := hJ
  change Code.wp _ (Code.seq (Code.region _ _ _) (Code.cond _ _ _)) _ _ _
  refine wp_seq ?_
  refine rg_list ?_
  refine wl_p (ex_mv h1_0) F0.l fun a1 u1 h47_1 => ?_
  have F1 := F0.pt u1
  obtain ⟨r48_1, b48_1, e48_1⟩ := u_shr n 13 hn
  refine wl_p (ex_bin (vy := (.int .u64 13)) (v := (.int .u32 r48_1)) h47_1 rfl (e48_1 _ _ _)) F1.l fun a2 u2 h48_2 => ?_
  have F2 := F1.pt u2
  obtain ⟨r49_2, e49_2⟩ := u_and r48_1 3
  refine wl_p (ex_bin (vy := (.int .u32 3)) (v := (.int .u32 r49_2)) h48_2 rfl (e49_2 _ _ _)) F2.l fun a3 u3 h49_3 => ?_
  have F3 := F2.pt u3
  obtain ⟨q50_3, e50_3⟩ := u_eql r49_2 1
  refine wl_p (ex_bin (vy := (.int .u32 1)) (v := (.bool q50_3)) h49_3 rfl (e50_3 _ _ _)) F3.l fun a4 u4 h50_4 => ?_
  have F4 := F3.pt u4
  change Code.wp _ _ _ _ _
  cases q50_3
  · refine wp_cond_false h50_4 ?_
    refine wp_skip ?_
    have h0_4 := u4.w (u3.w (u2.w (u1.w h0_0)))
    have h1_4 := u4.w (u3.w (u2.w (u1.w h1_0)))
    have h4_4 := u4.w (u3.w (u2.w (u1.w h4_0)))
    have h5_4 := u4.w (u3.w (u2.w (u1.w h5_0)))
    exact hK _ _ ⟨F4, h0_4, h1_4, h4_4, h5_4, B4_0, ⟨m, sv, segs, B5_0, ok, R_0, hsg, hcnt⟩, Kp0, hg4, hg5, hne⟩
  · refine wp_cond_true h50_4 ?_
    refine rg_list ?_
    have h1_4 := u4.w (u3.w (u2.w (u1.w h1_0)))
    refine wl_p (ex_mv h1_4) F4.l fun a5 u5 h51_5 => ?_
    have F5 := F4.pt u5
    obtain ⟨r52_5, b52_5, e52_5⟩ := u_shr n 15 hn
    refine wl_p (ex_bin (vy := (.int .u64 15)) (v := (.int .u32 r52_5)) h51_5 rfl (e52_5 _ _ _)) F5.l fun a6 u6 h52_6 => ?_
    have F6 := F5.pt u6
    obtain ⟨r53_6, b53_6, e53_6⟩ := u_rem r52_5 999 (by decide) (by decide)
    refine wl_p (ex_bin (vy := (.int .u32 999)) (v := (.int .u32 r53_6)) h52_6 rfl (e53_6 _ _ _)) F6.l fun a7 u7 h53_7 => ?_
    have F7 := F6.pt u7
    obtain ⟨r54_7, b54_7, e54_7⟩ := u_add 1 r53_6 (by omega)
    refine wl_p (ex_bin (vx := (.int .u32 1)) (v := (.int .u32 r54_7)) rfl h53_7 (e54_7 _ _ _)) F7.l fun a8 u8 h54_8 => ?_
    have F8 := F7.pt u8
    refine wl_p (ex_conv (vx := (.int .u32 r54_7)) (v := (.int .u64 r54_7)) h54_8 (cv_39_25 r54_7 (by omega) _)) F8.l fun a9 u9 h55_9 => ?_
    have F9 := F8.pt u9
    have h5_9 := u9.w (u8.w (u7.w (u6.w (u5.w (u4.w (u3.w (u2.w (u1.w h5_0))))))))
    refine wl_p (ex_fb 3 h5_9) F9.l fun a10 u10 h56_10 => ?_
    have F10 := F9.pt u10
    obtain ⟨w1, hr1, B5_1, G1⟩ := st_run (T := 25) (o := 3) (v := (.int .u64 r54_7)) (cs' := #[(.int .i64 m.ver), (.int .i64 m.td), (.int .u64 m.seq), (.int .u64 r54_7), (.int .i64 m.ty), (.int .i64 m.st), (.bool m.pre), (.bool m.ifr), (.bool m.clo), (pto none), (pto none), sv]) (fun _ => by kernel_rfl) B5_0 rfl (Nat.le_of_ble_eq_true rfl) rfl
    have B4_1 := B4_0.gk G1 hne
    have Kp1 := Kp0.set G1 (Or.inr hg5)
    have R_1 := R_0.gk B5_0 (by decide) (by decide) (by decide) G1
    refine wl_n (ex_st h56_10 (u10.w h55_9) hr1) ?_
    have h0_10 := u10.w (u9.w (u8.w (u7.w (u6.w (u5.w (u4.w (u3.w (u2.w (u1.w h0_0)))))))))
    have h1_10 := u10.w (u9.w (u8.w (u7.w (u6.w (u5.w h1_4)))))
    have h4_10 := u10.w (u9.w (u8.w (u7.w (u6.w (u5.w (u4.w (u3.w (u2.w (u1.w h4_0)))))))))
    exact hK _ _ ⟨F10, h0_10, h1_10, h4_10, (u10.w h5_9), B4_1, ⟨{ m with dsq := r54_7 }, sv, segs, B5_1, ⟨ok.ver, ok.td, ok.seq, by show r54_7 < 1000; omega, ok.ty, ok.st⟩, R_1, hsg, hcnt⟩, Kp1, hg4, hg5, hne⟩
theorem md_round {ao : Option Addr} {b off len cap j : Nat} {zs : Nat → Nat} {R : Exit → Act → World → Prop} (hn : n < 4294967296) (hu : U32s w00 ao b off len cap zs) (hj : j < min len 12) (hJ : JMed w00 (.slice ao len cap) n g4 g5 j a0 w0) (h61_0 : a0.tmps.getD 61 undef = .slice ao (min len 12) cap) (h62_0 : a0.tmps.getD 62 undef = .int .i64 (min len 12 : Nat)) (h63_0 : a0.tmps.getD 63 undef = .int .i64 j)
    (hR : ∀ a' w', (JMed w00 (.slice ao len cap) n g4 g5 (j + 1) a' w' ∧ a'.tmps.getD 61 undef = .slice ao (min len 12) cap ∧ a'.tmps.getD 62 undef = .int .i64 (min len 12 : Nat) ∧ a'.tmps.getD 63 undef = .int .i64 (j + 1 : Nat)) → R .normal a' w') : (cat [1, 1, 1, 1, 0, 1, 0, 0] mdB).wp Tryz.prog R a0 w0 := by
  change Code.wp _ (Code.seq _ _) _ _ _
  obtain ⟨F0, h0_0, h1_0, h4_0, h5_0, B4_0, ⟨m, sv, segs, B5_0, ok, R_0, hsg, hcnt⟩, Kp0, hg4, hg5, hne⟩ := hJ
  have hcap := hu.hcap
  obtain ⟨rfl, hbl⟩ := hu.at_ (by omega)
  refine wp_seq ?_
  refine rg_list ?_
  refine wl_p (ex_bin (v := (.bool true)) h63_0 h62_0 (bo_lss_yes _ _ hj _)) F0.l fun a1 u1 h64_1 => ?_
  have F1 := F0.pt u1
  change Code.wp _ _ _ _ _
  refine wp_seq ?_
  refine wp_cond_true h64_1 ?_
  refine wp_skip ?_
  change Code.wp _ _ _ _ _
  refine wp_seq ?_
  refine wp_block ?_
  refine wp_seq ?_
  refine rg_list ?_
  refine wl_p (ex_ixg (v := .pointer (some ⟨b, off + j, none⟩)) (u1.w h61_0) (u1.w h63_0) (ix32_run b off _ cap j hj _)) F1.l fun a2 u2 h65_2 => ?_
  have F2 := F1.pt u2
  refine wl_p (ex_le (v := .int .u32 (zs j)) h65_2 (hu.kp Kp0 (by omega))) F2.l fun a3 u3 h66_3 => ?_
  have F3 := F2.pt u3
  refine wl_p (ex_as h66_3) F3.l fun a4 u4 h7_4 => ?_
  have F4 := F3.pt u4
  change Code.wp _ _ _ _ _
  obtain ⟨w1, hw1⟩ : ∃ w, w = w0.drew := ⟨_, rfl⟩
  have G1 : w0.grownBy w1 none := hw1 ▸ grown_drew _
  have B4_1 := B4_0.gn G1
  have B5_1 := B5_0.gn G1
  have Kp1 := Kp0.new G1
  have R_1 := R_0.gn G1
  refine rg_tree (S := fun _ => True) [0, 2] 6 hw1 ⟨rfl, by decide⟩ hmix (by kernel_rfl) (by kernel_rfl) (trivial) ?_
  have h5_4 := u4.w (u3.w (u2.w (u1.w h5_0)))
  refine mh_p (fun w hw => ex_fb 11 h5_4) F4.l fun a5 u5 h67_5 => ?_
  have F5 := F4.pt u5
  refine mh_p (fun w hw => ex_mv (u5.w h7_4)) F5.l fun a6 u6 h69_6 => ?_
  have F6 := F5.pt u6
  refine tree2 (j := 1) (k := 3) (by kernel_rfl) ?_ ?_
  · refine tk_p rfl (ex_le (v := sv) (u6.w h67_5) (B5_1.cell 11)) (trivial) F6.l fun a7 u7 h68_7 => ?_
    have F7 := F6.pt u7
    refine tree1 (j := 3) (by kernel_rfl) ?_
    refine tk_cl (args := #[(.int .u32 (zs j))]) (R := fun v w' => ∃ s kp mp, v = .agg (ssegC s kp mp) ∧ SKey w' kp s.key ∧ SMap w' mp s.map ∧ SegOk s ∧ w1.grownBy w' none) rfl (ex_cl (fun _ _ => by kernel_rfl) (arg1 (u7.w h69_6))) ((segmentOf_any (zs j) (hu.lt j) w1).mono fun _ _ ⟨s, kp, mp, h⟩ => ⟨_, h.1, s, kp, mp, rfl, h.2⟩) F7.l ?_
    rintro v w2 ⟨s2, kp2, mp2, rfl, sk_2, sm_2, ok2, G2⟩
    have B4_2 := B4_1.gn G2
    have B5_2 := B5_1.gn G2
    have Kp2 := Kp1.new G2
    have R_2 := R_1.gn G2
    refine ⟨trivial, ?_⟩
    intro a8 u8 h70_8
    have F8 := F7.pt u8
    refine tree1 (j := 4) (by kernel_rfl) ?_
    obtain ⟨gs71_8, hgs71_8⟩ : ∃ g, w2.heap.size = g := ⟨_, rfl⟩
    have ne_4_s71_8 : g4 ≠ gs71_8 := by have := B4_2.lt; omega
    have ne_5_s71_8 : g5 ≠ gs71_8 := by have := B5_2.lt; omega
    have ge_s71_8 : w00.heap.size ≤ gs71_8 := by have := Kp2.size; omega
    obtain ⟨w3, hr3, Bs71_8_3, G3, hs3⟩ := bs_run (op := Instr.buildSlice 42 1 #[(0, (.agg #[(.string s2.title), (.string s2.uri), (.int .i64 s2.e), (.int .i64 s2.li), (.int .i64 s2.off), (pto kp2), (pto mp2), (.bool s2.disc), (.string s2.date)]))]) (n := 1) (T := 53) (cs := #[(.string s2.title), (.string s2.uri), (.int .i64 s2.e), (.int .i64 s2.li), (.int .i64 s2.off), (pto kp2), (pto mp2), (.bool s2.disc), (.string s2.date)]) hgs71_8 (fun _ => by kernel_rfl)
    have B4_3 := B4_2.gn G3
    have B5_3 := B5_2.gn G3
    have Kp3 := Kp2.new G3
    have R_3 := R_2.gn G3
    have sk_3 := sk_2.gn G3
    have sm_3 := sm_2.gn G3
    refine tk_p rfl (ex_bs (vs := #[(0, (.agg #[(.string s2.title), (.string s2.uri), (.int .i64 s2.e), (.int .i64 s2.li), (.int .i64 s2.off), (pto kp2), (pto mp2), (.bool s2.disc), (.string s2.date)]))]) (by have e0 : a8.eval (.tmp 70) = (.agg #[(.string s2.title), (.string s2.uri), (.int .i64 s2.e), (.int .i64 s2.li), (.int .i64 s2.off), (pto kp2), (pto mp2), (.bool s2.disc), (.string s2.date)]) := h70_8; simp only [List.map_toArray, List.map_cons, List.map_nil, e0]) hr3) (trivial) F8.l fun a9 u9 (h71_9 : a9.tmps.getD 71 undef = (.slice (some ⟨gs71_8, 0, none⟩) 1 1)) => ?_
    have F9 := F8.pt u9
    refine tree1 (j := 5) (by kernel_rfl) ?_
    obtain ⟨v4, w4, hr4, R_4, G4, xs4, own4⟩ := R_3.push (s := s2) (kp := kp2) (mp := mp2) (ty := 42) (c := 1) Bs71_8_3 sk_3 sm_3 Kp3.size (by omega)
    have B4_4 := B4_3.row own4 (by decide) G4
    have B5_4 := B5_3.row own4 (by decide) G4
    have Kp4 := Kp3.row own4 (Nat.le_refl _) G4
    refine tk_p rfl (ex_app (u9.w (u8.w h68_7)) h71_9 hr4) (trivial) F9.l fun a10 u10 (h72_10 : a10.tmps.getD 72 undef = v4) => ?_
    have F10 := F9.pt u10
    clear own4
    refine tree1 (j := 6) (by kernel_rfl) ?_
    have h5_10 := u10.w (u9.w (u8.w (u7.w (u6.w (u5.w h5_4)))))
    refine tk_p rfl (ex_fb 11 h5_10) (trivial) F10.l fun a11 u11 h73_11 => ?_
    have F11 := F10.pt u11
    refine tree1 (j := 7) (by kernel_rfl) ?_
    obtain ⟨w5, hr5, B5_5, G5⟩ := st_run (T := 42) (o := 11) (v := v4) (cs' := #[(.int .i64 m.ver), (.int .i64 m.td), (.int .u64 m.seq), (.int .u64 m.dsq), (.int .i64 m.ty), (.int .i64 m.st), (.bool m.pre), (.bool m.ifr), (.bool m.clo), (pto none), (pto none), v4]) (fun _ => by kernel_rfl) B5_4 R_4.one (Nat.le_of_ble_eq_true rfl) rfl
    have B4_5 := B4_4.gk G5 hne
    have Kp5 := Kp4.set G5 (Or.inr hg5)
    have R_5 := R_4.gk B5_4 (by decide) (by decide) (by decide) G5
    refine tk_n rfl (ex_st h73_11 (u11.w h72_10) hr5) (trivial) ?_
    refine tree0 (by kernel_rfl) ?_
    change Code.wp _ _ _ _ _
    refine rg_list ?_
    have h63_11 := u11.w (u10.w (u9.w (u8.w (u7.w (u6.w (u5.w (u4.w (u3.w (u2.w (u1.w h63_0))))))))))
    refine wl_p (ex_bin (vy := (.int .i64 1)) (v := (.int .i64 (j + 1 : Nat))) h63_11 rfl (bo_addi3 j 1 _ (by omega))) F11.l fun a12 u12 h74_12 => ?_
    have F12 := F11.pt u12
    refine wl_p (ex_mv h74_12) F12.l fun a13 u13 h63_13 => ?_
    have F13 := F12.pt u13
    have h0_13 := u13.w (u12.w (u11.w (u10.w (u9.w (u8.w (u7.w (u6.w (u5.w (u4.w (u3.w (u2.w (u1.w h0_0))))))))))))
    have h1_13 := u13.w (u12.w (u11.w (u10.w (u9.w (u8.w (u7.w (u6.w (u5.w (u4.w (u3.w (u2.w (u1.w h1_0))))))))))))
    have h4_13 := u13.w (u12.w (u11.w (u10.w (u9.w (u8.w (u7.w (u6.w (u5.w (u4.w (u3.w (u2.w (u1.w h4_0))))))))))))
    have h5_13 := u13.w (u12.w (u11.w h5_10))
    have h61_13 := u13.w (u12.w (u11.w (u10.w (u9.w (u8.w (u7.w (u6.w (u5.w (u4.w (u3.w (u2.w (u1.w h61_0))))))))))))
    have h62_13 := u13.w (u12.w (u11.w (u10.w (u9.w (u8.w (u7.w (u6.w (u5.w (u4.w (u3.w (u2.w (u1.w h62_0))))))))))))
    refine hR _ _ ⟨⟨F13, h0_13, h1_13, h4_13, h5_13, B4_5, ⟨m, _, segs ++ [s2], B5_5, ok, R_5, fun s hs => ?_, by simp [hcnt]⟩, Kp5, hg4, hg5, hne⟩, h61_13, h62_13, h63_13⟩
    rcases List.mem_append.1 hs with h | h
    · exact hsg s h
    · rw [List.mem_singleton.1 h]; exact ok2
  · refine tk_cl (args := #[(.int .u32 (zs j))]) (R := fun v w' => ∃ s kp mp, v = .agg (ssegC s kp mp) ∧ SKey w' kp s.key ∧ SMap w' mp s.map ∧ SegOk s ∧ w1.grownBy w' none) rfl (ex_cl (fun _ _ => by kernel_rfl) (arg1 h69_6)) ((segmentOf_any (zs j) (hu.lt j) w1).mono fun _ _ ⟨s, kp, mp, h⟩ => ⟨_, h.1, s, kp, mp, rfl, h.2⟩) F6.l ?_
    rintro v w2 ⟨s2, kp2, mp2, rfl, sk_2, sm_2, ok2, G2⟩
    have B4_2 := B4_1.gn G2
    have B5_2 := B5_1.gn G2
    have Kp2 := Kp1.new G2
    have R_2 := R_1.gn G2
    refine ⟨trivial, ?_⟩
    intro a7 u7 h70_7
    have F7 := F6.pt u7
    refine tree2 (j := 1) (k := 4) (by kernel_rfl) ?_ ?_
    · refine tk_p rfl (ex_le (v := sv) (u7.w (u6.w h67_5)) (B5_2.cell 11)) (trivial) F7.l fun a8 u8 h68_8 => ?_
      have F8 := F7.pt u8
      refine tree1 (j := 4) (by kernel_rfl) ?_
      obtain ⟨gs71_8, hgs71_8⟩ : ∃ g, w2.heap.size = g := ⟨_, rfl⟩
      have ne_4_s71_8 : g4 ≠ gs71_8 := by have := B4_2.lt; omega
      have ne_5_s71_8 : g5 ≠ gs71_8 := by have := B5_2.lt; omega
      have ge_s71_8 : w00.heap.size ≤ gs71_8 := by have := Kp2.size; omega
      obtain ⟨w3, hr3, Bs71_8_3, G3, hs3⟩ := bs_run (op := Instr.buildSlice 42 1 #[(0, (.agg #[(.string s2.title), (.string s2.uri), (.int .i64 s2.e), (.int .i64 s2.li), (.int .i64 s2.off), (pto kp2), (pto mp2), (.bool s2.disc), (.string s2.date)]))]) (n := 1) (T := 53) (cs := #[(.string s2.title), (.string s2.uri), (.int .i64 s2.e), (.int .i64 s2.li), (.int .i64 s2.off), (pto kp2), (pto mp2), (.bool s2.disc), (.string s2.date)]) hgs71_8 (fun _ => by kernel_rfl)
      have B4_3 := B4_2.gn G3
      have B5_3 := B5_2.gn G3
      have Kp3 := Kp2.new G3
      have R_3 := R_2.gn G3
      have sk_3 := sk_2.gn G3
      have sm_3 := sm_2.gn G3
      refine tk_p rfl (ex_bs (vs := #[(0, (.agg #[(.string s2.title), (.string s2.uri), (.int .i64 s2.e), (.int .i64 s2.li), (.int .i64 s2.off), (pto kp2), (pto mp2), (.bool s2.disc), (.string s2.date)]))]) (by have e0 : a8.eval (.tmp 70) = (.agg #[(.string s2.title), (.string s2.uri), (.int .i64 s2.e), (.int .i64 s2.li), (.int .i64 s2.off), (pto kp2), (pto mp2), (.bool s2.disc), (.string s2.date)]) := (u8.w h70_7); simp only [List.map_toArray, List.map_cons, List.map_nil, e0]) hr3) (trivial) F8.l fun a9 u9 (h71_9 : a9.tmps.getD 71 undef = (.slice (some ⟨gs71_8, 0, none⟩) 1 1)) => ?_
      have F9 := F8.pt u9
      refine tree1 (j := 5) (by kernel_rfl) ?_
      obtain ⟨v4, w4, hr4, R_4, G4, xs4, own4⟩ := R_3.push (s := s2) (kp := kp2) (mp := mp2) (ty := 42) (c := 1) Bs71_8_3 sk_3 sm_3 Kp3.size (by omega)
      have B4_4 := B4_3.row own4 (by decide) G4
      have B5_4 := B5_3.row own4 (by decide) G4
      have Kp4 := Kp3.row own4 (Nat.le_refl _) G4
      refine tk_p rfl (ex_app (u9.w h68_8) h71_9 hr4) (trivial) F9.l fun a10 u10 (h72_10 : a10.tmps.getD 72 undef = v4) => ?_
      have F10 := F9.pt u10
      clear own4
      refine tree1 (j := 6) (by kernel_rfl) ?_
      have h5_10 := u10.w (u9.w (u8.w (u7.w (u6.w (u5.w h5_4)))))
      refine tk_p rfl (ex_fb 11 h5_10) (trivial) F10.l fun a11 u11 h73_11 => ?_
      have F11 := F10.pt u11
      refine tree1 (j := 7) (by kernel_rfl) ?_
      obtain ⟨w5, hr5, B5_5, G5⟩ := st_run (T := 42) (o := 11) (v := v4) (cs' := #[(.int .i64 m.ver), (.int .i64 m.td), (.int .u64 m.seq), (.int .u64 m.dsq), (.int .i64 m.ty), (.int .i64 m.st), (.bool m.pre), (.bool m.ifr), (.bool m.clo), (pto none), (pto none), v4]) (fun _ => by kernel_rfl) B5_4 R_4.one (Nat.le_of_ble_eq_true rfl) rfl
      have B4_5 := B4_4.gk G5 hne
      have Kp5 := Kp4.set G5 (Or.inr hg5)
      have R_5 := R_4.gk B5_4 (by decide) (by decide) (by decide) G5
      refine tk_n rfl (ex_st h73_11 (u11.w h72_10) hr5) (trivial) ?_
      refine tree0 (by kernel_rfl) ?_
      change Code.wp _ _ _ _ _
      refine rg_list ?_
      have h63_11 := u11.w (u10.w (u9.w (u8.w (u7.w (u6.w (u5.w (u4.w (u3.w (u2.w (u1.w h63_0))))))))))
      refine wl_p (ex_bin (vy := (.int .i64 1)) (v := (.int .i64 (j + 1 : Nat))) h63_11 rfl (bo_addi3 j 1 _ (by omega))) F11.l fun a12 u12 h74_12 => ?_
      have F12 := F11.pt u12
      refine wl_p (ex_mv h74_12) F12.l fun a13 u13 h63_13 => ?_
      have F13 := F12.pt u13
      have h0_13 := u13.w (u12.w (u11.w (u10.w (u9.w (u8.w (u7.w (u6.w (u5.w (u4.w (u3.w (u2.w (u1.w h0_0))))))))))))
      have h1_13 := u13.w (u12.w (u11.w (u10.w (u9.w (u8.w (u7.w (u6.w (u5.w (u4.w (u3.w (u2.w (u1.w h1_0))))))))))))
      have h4_13 := u13.w (u12.w (u11.w (u10.w (u9.w (u8.w (u7.w (u6.w (u5.w (u4.w (u3.w (u2.w (u1.w h4_0))))))))))))
      have h5_13 := u13.w (u12.w (u11.w h5_10))
      have h61_13 := u13.w (u12.w (u11.w (u10.w (u9.w (u8.w (u7.w (u6.w (u5.w (u4.w (u3.w (u2.w (u1.w h61_0))))))))))))
      have h62_13 := u13.w (u12.w (u11.w (u10.w (u9.w (u8.w (u7.w (u6.w (u5.w (u4.w (u3.w (u2.w (u1.w h62_0))))))))))))
      refine hR _ _ ⟨⟨F13, h0_13, h1_13, h4_13, h5_13, B4_5, ⟨m, _, segs ++ [s2], B5_5, ok, R_5, fun s hs => ?_, by simp [hcnt]⟩, Kp5, hg4, hg5, hne⟩, h61_13, h62_13, h63_13⟩
      rcases List.mem_append.1 hs with h | h
      · exact hsg s h
      · rw [List.mem_singleton.1 h]; exact ok2
    · obtain ⟨gs71_7, hgs71_7⟩ : ∃ g, w2.heap.size = g := ⟨_, rfl⟩
      have ne_4_s71_7 : g4 ≠ gs71_7 := by have := B4_2.lt; omega
      have ne_5_s71_7 : g5 ≠ gs71_7 := by have := B5_2.lt; omega
      have ge_s71_7 : w00.heap.size ≤ gs71_7 := by have := Kp2.size; omega
      obtain ⟨w3, hr3, Bs71_7_3, G3, hs3⟩ := bs_run (op := Instr.buildSlice 42 1 #[(0, (.agg #[(.string s2.title), (.string s2.uri), (.int .i64 s2.e), (.int .i64 s2.li), (.int .i64 s2.off), (pto kp2), (pto mp2), (.bool s2.disc), (.string s2.date)]))]) (n := 1) (T := 53) (cs := #[(.string s2.title), (.string s2.uri), (.int .i64 s2.e), (.int .i64 s2.li), (.int .i64 s2.off), (pto kp2), (pto mp2), (.bool s2.disc), (.string s2.date)]) hgs71_7 (fun _ => by kernel_rfl)
      have B4_3 := B4_2.gn G3
      have B5_3 := B5_2.gn G3
      have Kp3 := Kp2.new G3
      have R_3 := R_2.gn G3
      have sk_3 := sk_2.gn G3
      have sm_3 := sm_2.gn G3
      refine tk_p rfl (ex_bs (vs := #[(0, (.agg #[(.string s2.title), (.string s2.uri), (.int .i64 s2.e), (.int .i64 s2.li), (.int .i64 s2.off), (pto kp2), (pto mp2), (.bool s2.disc), (.string s2.date)]))]) (by have e0 : a7.eval (.tmp 70) = (.agg #[(.string s2.title), (.string s2.uri), (.int .i64 s2.e), (.int .i64 s2.li), (.int .i64 s2.off), (pto kp2), (pto mp2), (.bool s2.disc), (.string s2.date)]) := h70_7; simp only [List.map_toArray, List.map_cons, List.map_nil, e0]) hr3) (trivial) F7.l fun a8 u8 (h71_8 : a8.tmps.getD 71 undef = (.slice (some ⟨gs71_7, 0, none⟩) 1 1)) => ?_
      have F8 := F7.pt u8
      refine tree1 (j := 1) (by kernel_rfl) ?_
      have h67_8 := u8.w (u7.w (u6.w h67_5))
      refine tk_p rfl (ex_le (v := sv) h67_8 (B5_3.cell 11)) (trivial) F8.l fun a9 u9 h68_9 => ?_
      have F9 := F8.pt u9
      refine tree1 (j := 5) (by kernel_rfl) ?_
      obtain ⟨v4, w4, hr4, R_4, G4, xs4, own4⟩ := R_3.push (s := s2) (kp := kp2) (mp := mp2) (ty := 42) (c := 1) Bs71_7_3 sk_3 sm_3 Kp3.size (by omega)
      have B4_4 := B4_3.row own4 (by decide) G4
      have B5_4 := B5_3.row own4 (by decide) G4
      have Kp4 := Kp3.row own4 (Nat.le_refl _) G4
      refine tk_p rfl (ex_app h68_9 (u9.w h71_8) hr4) (trivial) F9.l fun a10 u10 (h72_10 : a10.tmps.getD 72 undef = v4) => ?_
      have F10 := F9.pt u10
      clear own4
      refine tree1 (j := 6) (by kernel_rfl) ?_
      have h5_10 := u10.w (u9.w (u8.w (u7.w (u6.w (u5.w h5_4)))))
      refine tk_p rfl (ex_fb 11 h5_10) (trivial) F10.l fun a11 u11 h73_11 => ?_
      have F11 := F10.pt u11
      refine tree1 (j := 7) (by kernel_rfl) ?_
      obtain ⟨w5, hr5, B5_5, G5⟩ := st_run (T := 42) (o := 11) (v := v4) (cs' := #[(.int .i64 m.ver), (.int .i64 m.td), (.int .u64 m.seq), (.int .u64 m.dsq), (.int .i64 m.ty), (.int .i64 m.st), (.bool m.pre), (.bool m.ifr), (.bool m.clo), (pto none), (pto none), v4]) (fun _ => by kernel_rfl) B5_4 R_4.one (Nat.le_of_ble_eq_true rfl) rfl
      have B4_5 := B4_4.gk G5 hne
      have Kp5 := Kp4.set G5 (Or.inr hg5)
      have R_5 := R_4.gk B5_4 (by decide) (by decide) (by decide) G5
      refine tk_n rfl (ex_st h73_11 (u11.w h72_10) hr5) (trivial) ?_
      refine tree0 (by kernel_rfl) ?_
      change Code.wp _ _ _ _ _
      refine rg_list ?_
      have h63_11 := u11.w (u10.w (u9.w (u8.w (u7.w (u6.w (u5.w (u4.w (u3.w (u2.w (u1.w h63_0))))))))))
      refine wl_p (ex_bin (vy := (.int .i64 1)) (v := (.int .i64 (j + 1 : Nat))) h63_11 rfl (bo_addi3 j 1 _ (by omega))) F11.l fun a12 u12 h74_12 => ?_
      have F12 := F11.pt u12
      refine wl_p (ex_mv h74_12) F12.l fun a13 u13 h63_13 => ?_
      have F13 := F12.pt u13
      have h0_13 := u13.w (u12.w (u11.w (u10.w (u9.w (u8.w (u7.w (u6.w (u5.w (u4.w (u3.w (u2.w (u1.w h0_0))))))))))))
      have h1_13 := u13.w (u12.w (u11.w (u10.w (u9.w (u8.w (u7.w (u6.w (u5.w (u4.w (u3.w (u2.w (u1.w h1_0))))))))))))
      have h4_13 := u13.w (u12.w (u11.w (u10.w (u9.w (u8.w (u7.w (u6.w (u5.w (u4.w (u3.w (u2.w (u1.w h4_0))))))))))))
      have h5_13 := u13.w (u12.w (u11.w h5_10))
      have h61_13 := u13.w (u12.w (u11.w (u10.w (u9.w (u8.w (u7.w (u6.w (u5.w (u4.w (u3.w (u2.w (u1.w h61_0))))))))))))
      have h62_13 := u13.w (u12.w (u11.w (u10.w (u9.w (u8.w (u7.w (u6.w (u5.w (u4.w (u3.w (u2.w (u1.w h62_0))))))))))))
      refine hR _ _ ⟨⟨F13, h0_13, h1_13, h4_13, h5_13, B4_5, ⟨m, _, segs ++ [s2], B5_5, ok, R_5, fun s hs => ?_, by simp [hcnt]⟩, Kp5, hg4, hg5, hne⟩, h61_13, h62_13, h63_13⟩
      rcases List.mem_append.1 hs with h | h
      · exact hsg s h
      · rw [List.mem_singleton.1 h]; exact ok2
theorem md_exit {M cnt : Nat} (hJ : JMed w00 lv n g4 g5 cnt a0 w0) (h62_0 : a0.tmps.getD 62 undef = .int .i64 M) (h63_0 : a0.tmps.getD 63 undef = .int .i64 M) (hK : ∀ a', JMed w00 lv n g4 g5 cnt a' w0 → Q .normal a' w0) : (cat [1, 1, 1, 1, 0, 1, 0, 0] mdB).wp Tryz.prog (Exit.then (fun _ _ => False) (Exit.inBlock 0 Q)) a0 w0 := by
  change Code.wp _ (Code.seq _ _) _ _ _
  obtain ⟨F0, h0_0, h1_0, h4_0, h5_0, B4_0, ⟨m, sv, segs, B5_0, ok, R_0, hsg, hcnt⟩, Kp0, hg4, hg5, hne⟩ := hJ
  refine wp_seq ?_
  refine rg_list ?_
  refine wl_p (ex_bin (v := (.bool false)) h63_0 h62_0 (bo_lss_no _ _)) F0.l fun a1 u1 h64_1 => ?_
  have F1 := F0.pt u1
  change Code.wp _ _ _ _ _
  refine wp_seq ?_
  refine wp_cond_false h64_1 ?_
  refine wp_exit ?_
  try simp only [Exit.then]
  refine inBlock_exit ?_
  exact hK _ ⟨F1, (u1.w h0_0), (u1.w h1_0), (u1.w h4_0), (u1.w h5_0), B4_0, ⟨m, sv, segs, B5_0, ok, R_0, hsg, hcnt⟩, Kp0, hg4, hg5, hne⟩
theorem md_loop {ao : Option Addr} {b off len cap : Nat} {zs : Nat → Nat} (hn : n < 4294967296) (hu : U32s w00 ao b off len cap zs) (hJ : JMed w00 (.slice ao len cap) n g4 g5 0 a0 w0) (hK : ∀ a' w', JMed w00 (.slice ao len cap) n g4 g5 (min len 12) a' w' → Q .normal a' w') : (cat [1, 1, 1, 1, 0] mdB).wp Tryz.prog Q a0 w0 := by
  obtain ⟨F0, h0_0, h1_0, h4_0, h5_0, B4_0, ⟨m, sv, segs, B5_0, ok, R_0, hsg, hcnt⟩, Kp0, hg4, hg5, hne⟩ := hJ
  have hcap := hu.hcap
  have hlen := hu.hlen
  change Code.wp _ (Code.seq (Code.region _ _ _) (Code.block _ _)) _ _ _
  refine wp_seq ?_
  refine rg_list ?_
  refine wl_p (ex_mv h0_0) F0.l fun a1 u1 h57_1 => ?_
  have F1 := F0.pt u1
  refine wl_p (ex_mv (u1.w h0_0)) F1.l fun a2 u2 h58_2 => ?_
  have F2 := F1.pt u2
  refine wl_p (ex_bi (w' := w0) (args := #[(.slice ao len cap)]) (v := (.int .i64 len)) (arg1 h58_2) (by kernel_rfl)) F2.l fun a3 u3 h59_3 => ?_
  have F3 := F2.pt u3
  refine wl_p (ex_bi (w' := w0) (args := #[(.int .i64 len), (.int .i64 12)]) (v := (.int .i64 (min len 12 : Nat))) (arg2 h59_3 rfl) (min_run len _)) F3.l fun a4 u4 h60_4 => ?_
  have F4 := F3.pt u4
  have h57_4 := u4.w (u3.w (u2.w h57_1))
  refine wl_p (ex_sl (v := .slice ao (min len 12) cap) h57_4 rfl (congrArg some h60_4) rfl (sl32_run ao len cap (min len 12) (by omega) hcap _)) F4.l fun a5 u5 h61_5 => ?_
  have F5 := F4.pt u5
  refine wl_p (ex_bi (w' := w0) (args := #[(.slice ao (min len 12) cap)]) (v := (.int .i64 (min len 12 : Nat))) (arg1 h61_5) (by kernel_rfl)) F5.l fun a6 u6 h62_6 => ?_
  have F6 := F5.pt u6
  refine wl_p (ex_mv (v := (.int .i64 0)) rfl) F6.l fun a7 u7 h63_7 => ?_
  have F7 := F6.pt u7
  change Code.wp _ (Code.block _ (Code.loop _)) _ _ _
  have h0_7 := u7.w (u6.w (u5.w (u4.w (u3.w (u2.w (u1.w h0_0))))))
  have h1_7 := u7.w (u6.w (u5.w (u4.w (u3.w (u2.w (u1.w h1_0))))))
  have h4_7 := u7.w (u6.w (u5.w (u4.w (u3.w (u2.w (u1.w h4_0))))))
  have h5_7 := u7.w (u6.w (u5.w (u4.w (u3.w (u2.w (u1.w h5_0))))))
  refine loop_n (si := 63) (m := min len 12) (fun j a w => JMed w00 (.slice ao len cap) n g4 g5 j a w ∧ a.tmps.getD 61 undef = .slice ao (min len 12) cap ∧ a.tmps.getD 62 undef = .int .i64 (min len 12 : Nat) ∧ a.tmps.getD 63 undef = .int .i64 j) ⟨⟨F7, h0_7, h1_7, h4_7, h5_7, B4_0, ⟨m, sv, segs, B5_0, ok, R_0, hsg, hcnt⟩, Kp0, hg4, hg5, hne⟩, (u7.w (u6.w h61_5)), (u7.w h62_6), h63_7⟩ (fun _ _ _ h => h.2.2.2) ?_ ?_
  · clear hsg hcnt ok hne
    intro j a0 w0 hj ⟨hJ, h61_0, h62_0, h63_0⟩ R hR
    exact md_round hn hu hj hJ h61_0 h62_0 h63_0 hR
  · intro a w ⟨hJ, h61, h62, h63⟩
    exact md_exit hJ h62 h63 fun a' hJ' => hK _ _ hJ'
theorem md_end {cnt : Nat} (hJ : JMed w00 lv n g4 g5 cnt a0 w0) : (cat [1, 1, 1, 1, 1] mdB).wp Tryz.prog (fun e a w => bodyPost Tryz.prog Tryz.f8 (fun e w' => ∃ m sv segs, e = .returned (.agg (medC m none none sv)) ∧ m.Ok ∧ SRow w' w00.heap.size sv segs ∧ (∀ s ∈ segs, SegOk s) ∧ segs.length = cnt ∧ w00.grownBy w' none) e a w) a0 w0 := by
  change Code.wp _ (Code.seq _ _) _ _ _
  obtain ⟨F0, h0_0, h1_0, h4_0, h5_0, B4_0, ⟨m, sv, segs, B5_0, ok, R_0, hsg, hcnt⟩, Kp0, hg4, hg5, hne⟩ := hJ
  refine wp_seq ?_
  refine rg_list ?_
  refine wl_p (ex_lda h5_0 (ld_agg (n := 12) (xs := #[(.int .i64 m.ver), (.int .i64 m.td), (.int .u64 m.seq), (.int .u64 m.dsq), (.int .i64 m.ty), (.int .i64 m.st), (.bool m.pre), (.bool m.ifr), (.bool m.clo), (pto none), (pto none), sv]) (fun _ => by kernel_rfl) (fun _ => by kernel_rfl) B5_0 rfl (fun _ _ => by rw [Nat.zero_add]; rfl))) F0.l fun a1 u1 (h75_1 : a1.tmps.getD 75 undef = (.agg #[(.int .i64 m.ver), (.int .i64 m.td), (.int .u64 m.seq), (.int .u64 m.dsq), (.int .i64 m.ty), (.int .i64 m.st), (.bool m.pre), (.bool m.ifr), (.bool m.clo), (pto none), (pto none), sv])) => ?_
  have F1 := F0.pt u1
  obtain ⟨w1, hr1, B4_1, G1⟩ := sta_run (T := 44) (cs := #[(.int .i64 m.ver), (.int .i64 m.td), (.int .u64 m.seq), (.int .u64 m.dsq), (.int .i64 m.ty), (.int .i64 m.st), (.bool m.pre), (.bool m.ifr), (.bool m.clo), (pto none), (pto none), sv]) (fun _ => by kernel_rfl) B4_0 rfl rfl (by first | exact one_medC _ _ _ _ (SRow.one (by assumption)) | simp [Value.oneCell'])
  have B5_1 := B5_0.gk G1 (Ne.symm hne)
  have Kp1 := Kp0.set G1 (Or.inr hg4)
  have R_1 := R_0.gk B4_0 (by decide) (by decide) (by decide) G1
  refine wl_n (ex_st (u1.w h4_0) h75_1 hr1) ?_
  refine wp_ret ?_
  try simp only [Exit.then, Exit.inBlock]
  exact bodyPost_ret (v := .agg #[(.int .i64 m.ver), (.int .i64 m.td), (.int .u64 m.seq), (.int .u64 m.dsq), (.int .i64 m.ty), (.int .i64 m.st), (.bool m.pre), (.bool m.ifr), (.bool m.clo), (pto none), (pto none), sv]) (results_cell_row rfl _ _ _ _ _ _ _ (u1.w h4_0) B4_1 Tryz.underlying44 rfl (by kernel_rfl)) F1.defers ⟨m, sv, segs, rfl, ok, R_1, hsg, hcnt, Kp1.grown⟩
end
theorem mediaOf_any {ao : Option Addr} {b off len cap n : Nat} {zs : Nat → Nat} {w0 : World} (hn : n < 4294967296) (hu : U32s w0 ao b off len cap zs) : Calls Tryz.prog 8 #[.slice ao len cap, .int .u32 n] w0 fun e w' => ∃ m sv segs, e = .returned (.agg (medC m none none sv)) ∧ m.Ok ∧ SRow w' w0.heap.size sv segs ∧ (∀ s ∈ segs, SegOk s) ∧ segs.length = min len 12 ∧ w0.grownBy w' none := by
  refine calls_of_wp Tryz.func8 rfl ?_
  generalize hA : Act.mk _ _ = a0
  have F0 : Fz 76 a0 := by subst hA; exact ⟨by simp [Tryz.ntmps8], rfl⟩
  have h0_0 : a0.tmps.getD 0 undef = (.slice ao len cap) := by subst hA; exact fr_arg rfl
  have h1_0 : a0.tmps.getD 1 undef = (.int .u32 n) := by subst hA; exact fr_arg rfl
  clear hA
  have Kp0 := Kp.refl [] w0
  change Code.wp _ (Code.seq _ _) _ _ _
  refine wp_seq ?_
  refine rg_list ?_
  obtain ⟨g4, hg4⟩ : ∃ g, w0.heap.size = g := ⟨_, rfl⟩
  have ge_4 : w0.heap.size ≤ g4 := by have := Kp0.size; omega
  obtain ⟨w1, hr1, B4_1, G1, hs1⟩ := al_run (op := Instr.alloc 44 true (.tuple #[])) (T := 44) (cs := #[(.int .i64 0), (.int .i64 0), (.int .u64 0), (.int .u64 0), (.int .i64 0), (.int .i64 0), (.bool false), (.bool false), (.bool false), (.pointer none), (.pointer none), (.slice none 0 0)]) hg4 (fun _ => by kernel_rfl)
  have Kp1 := Kp0.new G1
  refine wl_p (ex_al hr1) F0.l fun a1 u1 (h4_1 : a1.tmps.getD 4 undef = (.pointer (some ⟨g4, 0, none⟩))) => ?_
  have F1 := F0.pt u1
  change Code.wp _ (Code.seq _ _) _ _ _
  refine wp_seq ?_
  refine rg_list ?_
  refine wl_p (ex_mv (u1.w h1_0)) F1.l fun a2 u2 h8_2 => ?_
  have F2 := F1.pt u2
  obtain ⟨r9_2, b9_2, e9_2⟩ := u_rem n 8 (by decide) (by decide)
  refine wl_p (ex_bin (vy := (.int .u32 8)) (v := (.int .u32 r9_2)) h8_2 rfl (e9_2 _ _ _)) F2.l fun a3 u3 h9_3 => ?_
  have F3 := F2.pt u3
  refine wl_p (ex_conv (vx := (.int .u32 r9_2)) (v := (.int .i64 r9_2)) h9_3 (cv_39_3 r9_2 (Nat.lt_trans b9_2 (by decide)) _)) F3.l fun a4 u4 h10_4 => ?_
  have F4 := F3.pt u4
  have h1_4 := u4.w (u3.w (u2.w (u1.w h1_0)))
  refine wl_p (ex_mv h1_4) F4.l fun a5 u5 h11_5 => ?_
  have F5 := F4.pt u5
  obtain ⟨r12_5, b12_5, e12_5⟩ := u_shr n 3 hn
  refine wl_p (ex_bin (vy := (.int .u64 3)) (v := (.int .u32 r12_5)) h11_5 rfl (e12_5 _ _ _)) F5.l fun a6 u6 h12_6 => ?_
  have F6 := F5.pt u6
  obtain ⟨r13_6, b13_6, e13_6⟩ := u_rem r12_5 50 (by decide) (by decide)
  refine wl_p (ex_bin (vy := (.int .u32 50)) (v := (.int .u32 r13_6)) h12_6 rfl (e13_6 _ _ _)) F6.l fun a7 u7 h13_7 => ?_
  have F7 := F6.pt u7
  refine wl_p (ex_conv (vx := (.int .u32 r13_6)) (v := (.int .i64 r13_6)) h13_7 (cv_39_3 r13_6 (Nat.lt_trans b13_6 (by decide)) _)) F7.l fun a8 u8 h14_8 => ?_
  have F8 := F7.pt u8
  refine wl_p (ex_bin (vx := (.int .i64 20)) (v := (.int .i64 (20 + r13_6 : Nat))) rfl h14_8 (bo_addi3 20 r13_6 _ (by omega))) F8.l fun a9 u9 h15_9 => ?_
  have F9 := F8.pt u9
  have h1_9 := u9.w (u8.w (u7.w (u6.w (u5.w h1_4))))
  refine wl_p (ex_mv h1_9) F9.l fun a10 u10 h16_10 => ?_
  have F10 := F9.pt u10
  obtain ⟨r17_10, b17_10, e17_10⟩ := u_shr n 5 hn
  refine wl_p (ex_bin (vy := (.int .u64 5)) (v := (.int .u32 r17_10)) h16_10 rfl (e17_10 _ _ _)) F10.l fun a11 u11 h17_11 => ?_
  have F11 := F10.pt u11
  refine wl_p (ex_conv (vx := (.int .u32 r17_10)) (v := (.int .u64 r17_10)) h17_11 (cv_39_25 r17_10 b17_10 _)) F11.l fun a12 u12 h18_12 => ?_
  have F12 := F11.pt u12
  have h1_12 := u12.w (u11.w (u10.w h1_9))
  refine wl_p (ex_mv h1_12) F12.l fun a13 u13 h19_13 => ?_
  have F13 := F12.pt u13
  obtain ⟨r20_13, b20_13, e20_13⟩ := u_shr n 4 hn
  refine wl_p (ex_bin (vy := (.int .u64 4)) (v := (.int .u32 r20_13)) h19_13 rfl (e20_13 _ _ _)) F13.l fun a14 u14 h20_14 => ?_
  have F14 := F13.pt u14
  obtain ⟨r21_14, b21_14, e21_14⟩ := u_rem r20_13 3 (by decide) (by decide)
  refine wl_p (ex_bin (vy := (.int .u32 3)) (v := (.int .u32 r21_14)) h20_14 rfl (e21_14 _ _ _)) F14.l fun a15 u15 h21_15 => ?_
  have F15 := F14.pt u15
  refine wl_p (ex_conv (vx := (.int .u32 r21_14)) (v := (.int .i64 r21_14)) h21_15 (cv_39_3 r21_14 (Nat.lt_trans b21_14 (by decide)) _)) F15.l fun a16 u16 h22_16 => ?_
  have F16 := F15.pt u16
  have h1_16 := u16.w (u15.w (u14.w (u13.w h1_12)))
  refine wl_p (ex_mv h1_16) F16.l fun a17 u17 h23_17 => ?_
  have F17 := F16.pt u17
  obtain ⟨r24_17, b24_17, e24_17⟩ := u_shr n 7 hn
  refine wl_p (ex_bin (vy := (.int .u64 7)) (v := (.int .u32 r24_17)) h23_17 rfl (e24_17 _ _ _)) F17.l fun a18 u18 h24_18 => ?_
  have F18 := F17.pt u18
  obtain ⟨r25_18, e25_18⟩ := u_and r24_17 3
  refine wl_p (ex_bin (vy := (.int .u32 3)) (v := (.int .u32 r25_18)) h24_18 rfl (e25_18 _ _ _)) F18.l fun a19 u19 h25_19 => ?_
  have F19 := F18.pt u19
  obtain ⟨q26_19, e26_19⟩ := u_eql r25_18 1
  refine wl_p (ex_bin (vy := (.int .u32 1)) (v := (.bool q26_19)) h25_19 rfl (e26_19 _ _ _)) F19.l fun a20 u20 h26_20 => ?_
  have F20 := F19.pt u20
  have h1_20 := u20.w (u19.w (u18.w (u17.w h1_16)))
  refine wl_p (ex_mv h1_20) F20.l fun a21 u21 h27_21 => ?_
  have F21 := F20.pt u21
  obtain ⟨r28_21, b28_21, e28_21⟩ := u_shr n 9 hn
  refine wl_p (ex_bin (vy := (.int .u64 9)) (v := (.int .u32 r28_21)) h27_21 rfl (e28_21 _ _ _)) F21.l fun a22 u22 h28_22 => ?_
  have F22 := F21.pt u22
  obtain ⟨r29_22, e29_22⟩ := u_and r28_21 1
  refine wl_p (ex_bin (vy := (.int .u32 1)) (v := (.int .u32 r29_22)) h28_22 rfl (e29_22 _ _ _)) F22.l fun a23 u23 h29_23 => ?_
  have F23 := F22.pt u23
  obtain ⟨q30_23, e30_23⟩ := u_eql r29_22 1
  refine wl_p (ex_bin (vy := (.int .u32 1)) (v := (.bool q30_23)) h29_23 rfl (e30_23 _ _ _)) F23.l fun a24 u24 h30_24 => ?_
  have F24 := F23.pt u24
  have h10_24 := u24.w (u23.w (u22.w (u21.w (u20.w (u19.w (u18.w (u17.w (u16.w (u15.w (u14.w (u13.w (u12.w (u11.w (u10.w (u9.w (u8.w (u7.w (u6.w (u5.w h10_4)))))))))))))))))))
  have h15_24 := u24.w (u23.w (u22.w (u21.w (u20.w (u19.w (u18.w (u17.w (u16.w (u15.w (u14.w (u13.w (u12.w (u11.w (u10.w h15_9))))))))))))))
  have h18_24 := u24.w (u23.w (u22.w (u21.w (u20.w (u19.w (u18.w (u17.w (u16.w (u15.w (u14.w (u13.w h18_12)))))))))))
  have h22_24 := u24.w (u23.w (u22.w (u21.w (u20.w (u19.w (u18.w (u17.w h22_16)))))))
  have h26_24 := u24.w (u23.w (u22.w (u21.w h26_20)))
  refine wl_p (ex_bd (w' := w1) (vs :=  #[(0, (.int .i64 r9_2)), (1, (.int .i64 (20 + r13_6 : Nat))), (2, (.int .u64 r17_10)), (4, (.int .i64 r21_14)), (7, (.bool q26_19)), (8, (.bool q30_23))]) (v := (.agg #[(.int .i64 r9_2), (.int .i64 (20 + r13_6 : Nat)), (.int .u64 r17_10), (.int .u64 0), (.int .i64 r21_14), (.int .i64 0), (.bool false), (.bool q26_19), (.bool q30_23), (.pointer none), (.pointer none), (.slice none 0 0)])) (by have e0 : a24.eval (.tmp 10) = (.int .i64 r9_2) := h10_24; have e1 : a24.eval (.tmp 15) = (.int .i64 (20 + r13_6 : Nat)) := h15_24; have e2 : a24.eval (.tmp 18) = (.int .u64 r17_10) := h18_24; have e4 : a24.eval (.tmp 22) = (.int .i64 r21_14) := h22_24; have e7 : a24.eval (.tmp 26) = (.bool q26_19) := h26_24; have e8 : a24.eval (.tmp 30) = (.bool q30_23) := h30_24; simp only [List.map_toArray, List.map_cons, List.map_nil, e0, e1, e2, e4, e7, e8]) (by kernel_rfl)) F24.l fun a25 u25 h31_25 => ?_
  have F25 := F24.pt u25
  obtain ⟨g5, hg5⟩ : ∃ g, w1.heap.size = g := ⟨_, rfl⟩
  have ne_4_5 : g4 ≠ g5 := by have := B4_1.lt; omega
  have ge_5 : w0.heap.size ≤ g5 := by have := Kp1.size; omega
  obtain ⟨w2, hr2, B5_2, G2, hs2⟩ := al_run (op := Instr.alloc 44 true (.tuple #[])) (T := 44) (cs := #[(.int .i64 0), (.int .i64 0), (.int .u64 0), (.int .u64 0), (.int .i64 0), (.int .i64 0), (.bool false), (.bool false), (.bool false), (.pointer none), (.pointer none), (.slice none 0 0)]) hg5 (fun _ => by kernel_rfl)
  have B4_2 := B4_1.gn G2
  have Kp2 := Kp1.new G2
  refine wl_p (ex_al hr2) F25.l fun a26 u26 (h5_26 : a26.tmps.getD 5 undef = (.pointer (some ⟨g5, 0, none⟩))) => ?_
  have F26 := F25.pt u26
  obtain ⟨w3, hr3, B5_3, G3⟩ := sta_run (T := 44) (cs := #[(.int .i64 r9_2), (.int .i64 (20 + r13_6 : Nat)), (.int .u64 r17_10), (.int .u64 0), (.int .i64 r21_14), (.int .i64 0), (.bool false), (.bool q26_19), (.bool q30_23), (.pointer none), (.pointer none), (.slice none 0 0)]) (fun _ => by kernel_rfl) B5_2 rfl rfl (by first | exact one_medC _ _ _ _ (SRow.one (by assumption)) | simp [Value.oneCell'])
  have B4_3 := B4_2.gk G3 ne_4_5
  have Kp3 := Kp2.set G3 (Or.inr ge_5)
  refine wl_n (ex_st h5_26 (u26.w h31_25) hr3) ?_
  change Code.wp _ _ _ _ _
  have h0_26 := u26.w (u25.w (u24.w (u23.w (u22.w (u21.w (u20.w (u19.w (u18.w (u17.w (u16.w (u15.w (u14.w (u13.w (u12.w (u11.w (u10.w (u9.w (u8.w (u7.w (u6.w (u5.w (u4.w (u3.w (u2.w (u1.w h0_0)))))))))))))))))))))))))
  have h1_26 := u26.w (u25.w (u24.w (u23.w (u22.w (u21.w h1_20)))))
  have h4_26 := u26.w (u25.w (u24.w (u23.w (u22.w (u21.w (u20.w (u19.w (u18.w (u17.w (u16.w (u15.w (u14.w (u13.w (u12.w (u11.w (u10.w (u9.w (u8.w (u7.w (u6.w (u5.w (u4.w (u3.w (u2.w h4_1))))))))))))))))))))))))
  have hJ : JMed w0 (.slice ao len cap) n g4 g5 0 a26 w3 := ⟨F26, h0_26, h1_26, h4_26, h5_26, B4_3, ⟨⟨r9_2, (20 + r13_6 : Nat), r17_10, 0, r21_14, 0, false, q26_19, q30_23⟩, .slice none 0 0, [], B5_3, ⟨by dsimp only; omega, by dsimp only; omega, by dsimp only; omega, by dsimp only; omega, by dsimp only; omega, by dsimp only; omega⟩, .nil, by simp, rfl⟩, Kp3, ge_4, ge_5, ne_4_5⟩
  refine wp_seq (md_start hn hJ fun a w hJ => (?_ : Code.wp _ _ _ _ _))
  refine wp_seq (md_dsq hn hJ fun a w hJ => (?_ : Code.wp _ _ _ _ _))
  refine wp_seq (md_loop hn hu hJ fun a w hJ => (?_ : Code.wp _ _ _ _ _))
  exact md_end hJ
end Go.Proofs.YtlphcidpaidclaaGreatDoor
