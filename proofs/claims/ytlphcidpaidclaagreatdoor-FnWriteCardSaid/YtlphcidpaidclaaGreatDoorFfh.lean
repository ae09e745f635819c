/-
  internal/strconv.fmtEFG at the verb f.
-/
import Derived.Test.YtlphcidpaidclaaGreatDoorFfg
namespace Go.Proofs.YtlphcidpaidclaaGreatDoor
open Go.RowKit
set_option maxRecDepth 100000
noncomputable def efB : Code := Tryz.f83.body.getD .skip
structure JB (B : Nat) (w0 : World) (ds : List UInt8) (sval d3 d4 d5 e23 e27 e28 e29 : Value) (l : List UInt8) (a : Act) (w : World) : Prop where
  fz : Fz 272 a
  row : ∃ v, a.tmps.getD 0 undef = v ∧ BRow w B v l
  t2 : a.tmps.getD 2 undef = sval
  t3 : a.tmps.getD 3 undef = d3
  t4 : a.tmps.getD 4 undef = d4
  t5 : a.tmps.getD 5 undef = d5
  t23 : a.tmps.getD 23 undef = e23
  t27 : a.tmps.getD 27 undef = e27
  t28 : a.tmps.getD 28 undef = e28
  t29 : a.tmps.getD 29 undef = e29
  dig : Digs w sval ds
  bel : Below B w0 w
  hb : B ≤ w.heap.size
theorem fr_undef {args : Array Value} {n i : Nat} (h : args.size ≤ i) : (Act.mk (args ++ Array.replicate n undef) []).tmps.getD i undef = undef := by
  show (args ++ Array.replicate n undef).getD i undef = undef
  rw [Array.getD_eq_getD_getElem?, Array.getElem?_append_right h, Array.getElem?_replicate]
  split <;> rfl
section
variable {B : Nat} {w00 w0 : World} {ds : List UInt8} {sval d3 d4 d5 e23 e27 e28 e29 : Value} {l : List UInt8} {a0 : Act} {k j dp nd prec : Nat} {Q : Exit → Act → World → Prop}

theorem ef4_round {sv2 : Value} (hj : j < k) (hk100 : k ≤ 100) (hk : k ≤ ds.length) (hsl : ∀ (w2 : World), Digs w2 sval ds → ∀ j (hj : j < k), ∃ ad, (∀ w', (Instr.indexAt 23 sv2 (.int .i64 j)).run Tryz.prog w' = .ok (.pointer (some ad)) w') ∧ w2.cell? ad = some (.int .u8 ((ds[j]'(Nat.lt_of_lt_of_le hj hk)).toNat))) (hl : l.length ≤ 1000) (hJ : JB B w00 ds sval d3 d4 d5 e23 e27 e28 e29 l a0 w0) (h190_0 : a0.tmps.getD 190 undef = .int .i64 k) (h191_0 : a0.tmps.getD 191 undef = .int .i64 j) (h189_0 : a0.tmps.getD 189 undef = sv2)
    (hK : ∀ a w, (JB B w00 ds sval d3 d4 d5 e23 e27 e28 e29 (l ++ [ds[j]]) a w ∧ a.tmps.getD 190 undef = .int .i64 k ∧ a.tmps.getD 191 undef = .int .i64 (j + 1 : Nat) ∧ a.tmps.getD 189 undef = sv2) → Q .normal a w) : (cat [1, 1, 0, 1, 0, 1, 1, 1, 0, 1, 0, 1, 0, 1, 0, 1, 0, 0] efB).wp Tryz.prog Q a0 w0 := by
  change Code.wp _ (Code.seq _ _) _ _ _
  obtain ⟨F0, ⟨v0, h0_0, R_0⟩, h2_0, h3_0, h4_0, h5_0, h23_0, h27_0, h28_0, h29_0, D_0, Bl_0, Hb_0⟩ := hJ
  obtain ⟨ad, hix, hcell⟩ := hsl w0 D_0 j hj
  refine wp_seq ?_
  refine rg_list ?_
  refine wl_p (ex_bin (v := (.bool true)) h191_0 h190_0 (bo_lss_yes _ _ hj _)) F0.l fun a1 u1 h192_1 => ?_
  have F1 := F0.pt u1
  change Code.wp _ _ _ _ _
  refine wp_seq ?_
  refine wp_cond_true h192_1 ?_
  refine wp_skip ?_
  change Code.wp _ _ _ _ _
  refine wp_seq ?_
  refine wp_block ?_
  refine wp_seq ?_
  refine rg_list ?_
  refine wl_p (ex_ixg (v := .pointer (some ad)) (u1.w h189_0) (u1.w h191_0) (hix _)) F1.l fun a2 u2 h193_2 => ?_
  have F2 := F1.pt u2
  refine wl_p (ex_le (v := .int .u8 (ds[j].toNat)) h193_2 hcell) F2.l fun a3 u3 h194_3 => ?_
  have F3 := F2.pt u3
  refine wl_p (ex_as h194_3) F3.l fun a4 u4 h25_4 => ?_
  have F4 := F3.pt u4
  change Code.wp _ _ _ _ _
  refine rg_list ?_
  have h0_4 := u4.w (u3.w (u2.w (u1.w h0_0)))
  refine wl_p (ex_mv h0_4) F4.l fun a5 u5 h195_5 => ?_
  have F5 := F4.pt u5
  refine wl_p (ex_mv (u5.w h25_4)) F5.l fun a6 u6 h196_6 => ?_
  have F6 := F5.pt u6
  obtain ⟨gs197_6, hgs197_6⟩ : ∃ g, w0.heap.size = g := ⟨_, rfl⟩
  obtain ⟨w1, hr1, Bs197_6_1, G1, hs1⟩ := bs_run (op := Instr.buildSlice 23 1 #[(0, (.int .u8 (ds[j].toNat)))]) (n := 1) (T := 5) (cs := #[(.int .u8 (ds[j].toNat))]) hgs197_6 (fun _ => by kernel_rfl)
  have R_1 := R_0.gn G1
  have D_1 := D_0.gn G1
  have Bl_1 := below_gn Bl_0 Hb_0 G1
  have Hb_1 := Nat.le_trans Hb_0 G1.size
  refine wl_p (ex_bs (vs := #[(0, (.int .u8 (ds[j].toNat)))]) (by have e0 : a6.eval (.tmp 196) = (.int .u8 (ds[j].toNat)) := h196_6; simp only [List.map_toArray, List.map_cons, List.map_nil, e0]) hr1) F6.l fun a7 u7 (h197_7 : a7.tmps.getD 197 undef = (.slice (some ⟨gs197_6, 0, none⟩) 1 1)) => ?_
  have F7 := F6.pt u7
  obtain ⟨v2, w2, hr2, R_2, G2⟩ := R_1.push (ty := 23) (n := 1) (c := 1) [ds[j]] Bs197_6_1 rfl Hb_1 (by first | omega | (simp only [List.length_append, List.length_replicate, List.length_take, List.length_cons, List.length_nil]; omega))
  have D_2 := D_1.row R_1 G2
  have Bl_2 := below_row Bl_1 Hb_1 R_1 G2
  have Hb_2 := Nat.le_trans Hb_1 G2.size
  refine wl_p (ex_app (u7.w (u6.w h195_5)) h197_7 hr2) F7.l fun a8 u8 (h198_8 : a8.tmps.getD 198 undef = v2) => ?_
  have F8 := F7.pt u8
  refine wl_p (ex_as h198_8) F8.l fun a9 u9 h0_9 => ?_
  have F9 := F8.pt u9
  change Code.wp _ _ _ _ _
  refine rg_list ?_
  have h191_9 := u9.w (u8.w (u7.w (u6.w (u5.w (u4.w (u3.w (u2.w (u1.w h191_0))))))))
  refine wl_p (ex_bin (vy := (.int .i64 1)) (v := (.int .i64 (j + 1 : Nat))) h191_9 rfl (bo_addi3 j 1 _ (by omega))) F9.l fun a10 u10 h199_10 => ?_
  have F10 := F9.pt u10
  refine wl_p (ex_mv h199_10) F10.l fun a11 u11 h191_11 => ?_
  have F11 := F10.pt u11
  have h2_11 := u11.w (u10.w (u9.w (u8.w (u7.w (u6.w (u5.w (u4.w (u3.w (u2.w (u1.w h2_0))))))))))
  have h3_11 := u11.w (u10.w (u9.w (u8.w (u7.w (u6.w (u5.w (u4.w (u3.w (u2.w (u1.w h3_0))))))))))
  have h4_11 := u11.w (u10.w (u9.w (u8.w (u7.w (u6.w (u5.w (u4.w (u3.w (u2.w (u1.w h4_0))))))))))
  have h5_11 := u11.w (u10.w (u9.w (u8.w (u7.w (u6.w (u5.w (u4.w (u3.w (u2.w (u1.w h5_0))))))))))
  have h23_11 := u11.w (u10.w (u9.w (u8.w (u7.w (u6.w (u5.w (u4.w (u3.w (u2.w (u1.w h23_0))))))))))
  have h27_11 := u11.w (u10.w (u9.w (u8.w (u7.w (u6.w (u5.w (u4.w (u3.w (u2.w (u1.w h27_0))))))))))
  have h28_11 := u11.w (u10.w (u9.w (u8.w (u7.w (u6.w (u5.w (u4.w (u3.w (u2.w (u1.w h28_0))))))))))
  have h29_11 := u11.w (u10.w (u9.w (u8.w (u7.w (u6.w (u5.w (u4.w (u3.w (u2.w (u1.w h29_0))))))))))
  have h190_11 := u11.w (u10.w (u9.w (u8.w (u7.w (u6.w (u5.w (u4.w (u3.w (u2.w (u1.w h190_0))))))))))
  have h189_11 := u11.w (u10.w (u9.w (u8.w (u7.w (u6.w (u5.w (u4.w (u3.w (u2.w (u1.w h189_0))))))))))
  exact hK _ _ ⟨⟨F11, ⟨_, (u11.w (u10.w h0_9)), R_2⟩, h2_11, h3_11, h4_11, h5_11, h23_11, h27_11, h28_11, h29_11, D_2, Bl_2, Hb_2⟩, h190_11, h191_11, h189_11⟩
theorem ef4_exit (hJ : JB B w00 ds sval d3 d4 d5 e23 e27 e28 e29 l a0 w0) (h190_0 : a0.tmps.getD 190 undef = .int .i64 k) (h191_0 : a0.tmps.getD 191 undef = .int .i64 k) (hK : ∀ a, JB B w00 ds sval d3 d4 d5 e23 e27 e28 e29 l a w0 → Q .normal a w0) : (cat [1, 1, 0, 1, 0, 1, 1, 1, 0, 1, 0, 1, 0, 1, 0, 1, 0, 0] efB).wp Tryz.prog (Exit.then (fun _ _ => False) (Exit.inBlock 4 Q)) a0 w0 := by
  change Code.wp _ (Code.seq _ _) _ _ _
  obtain ⟨F0, ⟨v0, h0_0, R_0⟩, h2_0, h3_0, h4_0, h5_0, h23_0, h27_0, h28_0, h29_0, D_0, Bl_0, Hb_0⟩ := hJ
  refine wp_seq ?_
  refine rg_list ?_
  refine wl_p (ex_bin (v := (.bool false)) h191_0 h190_0 (bo_lss_no _ _)) F0.l fun a1 u1 h192_1 => ?_
  have F1 := F0.pt u1
  change Code.wp _ _ _ _ _
  refine wp_seq ?_
  refine wp_cond_false h192_1 ?_
  refine wp_exit ?_
  try simp only [Exit.then]
  refine inBlock_exit ?_
  exact hK _ ⟨F1, ⟨_, (u1.w h0_0), R_0⟩, (u1.w h2_0), (u1.w h3_0), (u1.w h4_0), (u1.w h5_0), (u1.w h23_0), (u1.w h27_0), (u1.w h28_0), (u1.w h29_0), D_0, Bl_0, Hb_0⟩
theorem ef4_loop {sv2 : Value} (hk100 : k ≤ 100) (hk : k ≤ ds.length) (hsl : ∀ (w2 : World), Digs w2 sval ds → ∀ j (hj : j < k), ∃ ad, (∀ w', (Instr.indexAt 23 sv2 (.int .i64 j)).run Tryz.prog w' = .ok (.pointer (some ad)) w') ∧ w2.cell? ad = some (.int .u8 ((ds[j]'(Nat.lt_of_lt_of_le hj hk)).toNat))) (hl : l.length ≤ 800) (hJ : JB B w00 ds sval d3 d4 d5 e23 e27 e28 e29 l a0 w0) (h1 : a0.tmps.getD 190 undef = .int .i64 k) (h2 : a0.tmps.getD 191 undef = .int .i64 0) (h189_0 : a0.tmps.getD 189 undef = sv2) (hK : ∀ a w, JB B w00 ds sval d3 d4 d5 e23 e27 e28 e29 (l ++ ds.take k) a w → Q .normal a w) : (cat [1, 1, 0, 1, 0, 1, 1, 1, 0, 1, 0, 1, 0, 1, 0, 1] efB).wp Tryz.prog Q a0 w0 := by
  change Code.wp _ (Code.block _ (Code.loop _)) _ _ _
  refine loop_n (si := 191) (m := k) (fun j a w => JB B w00 ds sval d3 d4 d5 e23 e27 e28 e29 (l ++ ds.take j) a w ∧ a.tmps.getD 190 undef = .int .i64 k ∧ a.tmps.getD 191 undef = .int .i64 j ∧ a.tmps.getD 189 undef = sv2) ⟨by simpa using hJ, h1, h2, h189_0⟩ (fun _ _ _ h => h.2.2.1) ?_ ?_
  · rintro j a w hj ⟨hJ, h1, h2, e189⟩ R hK
    refine ef4_round hj hk100 hk hsl (by rw [List.length_append, List.length_take]; omega) hJ h1 h2 e189 fun a' w' h => hK _ _ ?_
    obtain ⟨h4, h5, h6, f189⟩ := h
    refine ⟨?_, h5, h6, f189⟩
    rw [List.take_succ_eq_append_getElem (by omega), ← List.append_assoc]; exact h4
  · rintro a w ⟨hJ, h1, h2, e189⟩
    exact ef4_exit hJ h1 h2 fun a' hJ' => hK _ _ hJ'
theorem ef6_round (hj : j < k) (hk100 : k ≤ 100) (hl : l.length ≤ 1000) (hJ : JB B w00 ds sval d3 d4 d5 e23 e27 e28 e29 l a0 w0) (h202_0 : a0.tmps.getD 202 undef = .int .i64 k) (h203_0 : a0.tmps.getD 203 undef = .int .i64 j)
    (hK : ∀ a w, (JB B w00 ds sval d3 d4 d5 e23 e27 e28 e29 (l ++ [48]) a w ∧ a.tmps.getD 202 undef = .int .i64 k ∧ a.tmps.getD 203 undef = .int .i64 (j + 1 : Nat)) → Q .normal a w) : (cat [1, 1, 0, 1, 0, 1, 1, 1, 0, 1, 0, 1, 0, 1, 1, 1, 0, 0] efB).wp Tryz.prog Q a0 w0 := by
  change Code.wp _ (Code.seq _ _) _ _ _
  obtain ⟨F0, ⟨v0, h0_0, R_0⟩, h2_0, h3_0, h4_0, h5_0, h23_0, h27_0, h28_0, h29_0, D_0, Bl_0, Hb_0⟩ := hJ
  refine wp_seq ?_
  refine rg_list ?_
  refine wl_p (ex_bin (v := (.bool true)) h203_0 h202_0 (bo_lss_yes _ _ hj _)) F0.l fun a1 u1 h204_1 => ?_
  have F1 := F0.pt u1
  change Code.wp _ _ _ _ _
  refine wp_seq ?_
  refine wp_cond_true h204_1 ?_
  refine wp_skip ?_
  change Code.wp _ _ _ _ _
  refine wp_seq ?_
  refine wp_block ?_
  refine rg_list ?_
  refine wl_p (ex_mv (u1.w h0_0)) F1.l fun a2 u2 h205_2 => ?_
  have F2 := F1.pt u2
  obtain ⟨gs206_2, hgs206_2⟩ : ∃ g, w0.heap.size = g := ⟨_, rfl⟩
  obtain ⟨w1, hr1, Bs206_2_1, G1, hs1⟩ := bs_run (op := Instr.buildSlice 23 1 #[(0, (.int .u8 48))]) (n := 1) (T := 5) (cs := #[(.int .u8 48)]) hgs206_2 (fun _ => by kernel_rfl)
  have R_1 := R_0.gn G1
  have D_1 := D_0.gn G1
  have Bl_1 := below_gn Bl_0 Hb_0 G1
  have Hb_1 := Nat.le_trans Hb_0 G1.size
  refine wl_p (ex_bs (vs := #[(0, (.int .u8 48))]) (by simp only [List.map_toArray, List.map_cons, List.map_nil, ev_const]) hr1) F2.l fun a3 u3 (h206_3 : a3.tmps.getD 206 undef = (.slice (some ⟨gs206_2, 0, none⟩) 1 1)) => ?_
  have F3 := F2.pt u3
  obtain ⟨v2, w2, hr2, R_2, G2⟩ := R_1.push (ty := 23) (n := 1) (c := 1) [48] Bs206_2_1 rfl Hb_1 (by first | omega | (simp only [List.length_append, List.length_replicate, List.length_take, List.length_cons, List.length_nil]; omega))
  have D_2 := D_1.row R_1 G2
  have Bl_2 := below_row Bl_1 Hb_1 R_1 G2
  have Hb_2 := Nat.le_trans Hb_1 G2.size
  refine wl_p (ex_app (u3.w h205_2) h206_3 hr2) F3.l fun a4 u4 (h207_4 : a4.tmps.getD 207 undef = v2) => ?_
  have F4 := F3.pt u4
  refine wl_p (ex_as h207_4) F4.l fun a5 u5 h0_5 => ?_
  have F5 := F4.pt u5
  change Code.wp _ _ _ _ _
  refine rg_list ?_
  have h203_5 := u5.w (u4.w (u3.w (u2.w (u1.w h203_0))))
  refine wl_p (ex_bin (vy := (.int .i64 1)) (v := (.int .i64 (j + 1 : Nat))) h203_5 rfl (bo_addi3 j 1 _ (by omega))) F5.l fun a6 u6 h208_6 => ?_
  have F6 := F5.pt u6
  refine wl_p (ex_mv h208_6) F6.l fun a7 u7 h203_7 => ?_
  have F7 := F6.pt u7
  have h2_7 := u7.w (u6.w (u5.w (u4.w (u3.w (u2.w (u1.w h2_0))))))
  have h3_7 := u7.w (u6.w (u5.w (u4.w (u3.w (u2.w (u1.w h3_0))))))
  have h4_7 := u7.w (u6.w (u5.w (u4.w (u3.w (u2.w (u1.w h4_0))))))
  have h5_7 := u7.w (u6.w (u5.w (u4.w (u3.w (u2.w (u1.w h5_0))))))
  have h23_7 := u7.w (u6.w (u5.w (u4.w (u3.w (u2.w (u1.w h23_0))))))
  have h27_7 := u7.w (u6.w (u5.w (u4.w (u3.w (u2.w (u1.w h27_0))))))
  have h28_7 := u7.w (u6.w (u5.w (u4.w (u3.w (u2.w (u1.w h28_0))))))
  have h29_7 := u7.w (u6.w (u5.w (u4.w (u3.w (u2.w (u1.w h29_0))))))
  have h202_7 := u7.w (u6.w (u5.w (u4.w (u3.w (u2.w (u1.w h202_0))))))
  exact hK _ _ ⟨⟨F7, ⟨_, (u7.w (u6.w h0_5)), R_2⟩, h2_7, h3_7, h4_7, h5_7, h23_7, h27_7, h28_7, h29_7, D_2, Bl_2, Hb_2⟩, h202_7, h203_7⟩
theorem ef6_exit (hJ : JB B w00 ds sval d3 d4 d5 e23 e27 e28 e29 l a0 w0) (h202_0 : a0.tmps.getD 202 undef = .int .i64 k) (h203_0 : a0.tmps.getD 203 undef = .int .i64 k) (hK : ∀ a, JB B w00 ds sval d3 d4 d5 e23 e27 e28 e29 l a w0 → Q .normal a w0) : (cat [1, 1, 0, 1, 0, 1, 1, 1, 0, 1, 0, 1, 0, 1, 1, 1, 0, 0] efB).wp Tryz.prog (Exit.then (fun _ _ => False) (Exit.inBlock 6 Q)) a0 w0 := by
  change Code.wp _ (Code.seq _ _) _ _ _
  obtain ⟨F0, ⟨v0, h0_0, R_0⟩, h2_0, h3_0, h4_0, h5_0, h23_0, h27_0, h28_0, h29_0, D_0, Bl_0, Hb_0⟩ := hJ
  refine wp_seq ?_
  refine rg_list ?_
  refine wl_p (ex_bin (v := (.bool false)) h203_0 h202_0 (bo_lss_no _ _)) F0.l fun a1 u1 h204_1 => ?_
  have F1 := F0.pt u1
  change Code.wp _ _ _ _ _
  refine wp_seq ?_
  refine wp_cond_false h204_1 ?_
  refine wp_exit ?_
  try simp only [Exit.then]
  refine inBlock_exit ?_
  exact hK _ ⟨F1, ⟨_, (u1.w h0_0), R_0⟩, (u1.w h2_0), (u1.w h3_0), (u1.w h4_0), (u1.w h5_0), (u1.w h23_0), (u1.w h27_0), (u1.w h28_0), (u1.w h29_0), D_0, Bl_0, Hb_0⟩
theorem ef6_loop (hk100 : k ≤ 100) (hl : l.length ≤ 800) (hJ : JB B w00 ds sval d3 d4 d5 e23 e27 e28 e29 l a0 w0) (h1 : a0.tmps.getD 202 undef = .int .i64 k) (h2 : a0.tmps.getD 203 undef = .int .i64 0) (hK : ∀ a w, JB B w00 ds sval d3 d4 d5 e23 e27 e28 e29 (l ++ List.replicate k 48) a w → Q .normal a w) : (cat [1, 1, 0, 1, 0, 1, 1, 1, 0, 1, 0, 1, 0, 1, 1, 1] efB).wp Tryz.prog Q a0 w0 := by
  change Code.wp _ (Code.block _ (Code.loop _)) _ _ _
  refine loop_n (si := 203) (m := k) (fun j a w => JB B w00 ds sval d3 d4 d5 e23 e27 e28 e29 (l ++ List.replicate j 48) a w ∧ a.tmps.getD 202 undef = .int .i64 k ∧ a.tmps.getD 203 undef = .int .i64 j) ⟨by simpa using hJ, h1, h2⟩ (fun _ _ _ h => h.2.2) ?_ ?_
  · rintro j a w hj ⟨hJ, h1, h2⟩ R hK
    refine ef6_round hj hk100 (by rw [List.length_append, List.length_replicate]; omega) hJ h1 h2 fun a' w' h => hK _ _ ?_
    obtain ⟨h4, h5, h6⟩ := h
    refine ⟨?_, h5, h6⟩
    rw [List.replicate_succ', ← List.append_assoc]; exact h4
  · rintro a w ⟨hJ, h1, h2⟩
    exact ef6_exit hJ h1 h2 fun a' hJ' => hK _ _ hJ'
theorem ef8_round (hj : j < k) (hk100 : k ≤ 100) (hl : l.length ≤ 1000) (hJ : JB B w00 ds sval d3 d4 d5 e23 e27 e28 e29 l a0 w0) (h239_0 : a0.tmps.getD 239 undef = .int .i64 k) (h240_0 : a0.tmps.getD 240 undef = .int .i64 j)
    (hK : ∀ a w, (JB B w00 ds sval d3 d4 d5 e23 e27 e28 e29 (l ++ [48]) a w ∧ a.tmps.getD 239 undef = .int .i64 k ∧ a.tmps.getD 240 undef = .int .i64 (j + 1 : Nat)) → Q .normal a w) : (cat [1, 1, 0, 1, 0, 1, 1, 1, 0, 1, 1, 0, 1, 0, 1, 1, 1, 1, 1, 0, 1, 0, 0] efB).wp Tryz.prog Q a0 w0 := by
  change Code.wp _ (Code.seq _ _) _ _ _
  obtain ⟨F0, ⟨v0, h0_0, R_0⟩, h2_0, h3_0, h4_0, h5_0, h23_0, h27_0, h28_0, h29_0, D_0, Bl_0, Hb_0⟩ := hJ
  refine wp_seq ?_
  refine rg_list ?_
  refine wl_p (ex_bin (v := (.bool true)) h240_0 h239_0 (bo_lss_yes _ _ hj _)) F0.l fun a1 u1 h241_1 => ?_
  have F1 := F0.pt u1
  change Code.wp _ _ _ _ _
  refine wp_seq ?_
  refine wp_cond_true h241_1 ?_
  refine wp_skip ?_
  change Code.wp _ _ _ _ _
  refine wp_seq ?_
  refine wp_block ?_
  refine rg_list ?_
  refine wl_p (ex_mv (u1.w h0_0)) F1.l fun a2 u2 h242_2 => ?_
  have F2 := F1.pt u2
  obtain ⟨gs243_2, hgs243_2⟩ : ∃ g, w0.heap.size = g := ⟨_, rfl⟩
  obtain ⟨w1, hr1, Bs243_2_1, G1, hs1⟩ := bs_run (op := Instr.buildSlice 23 1 #[(0, (.int .u8 48))]) (n := 1) (T := 5) (cs := #[(.int .u8 48)]) hgs243_2 (fun _ => by kernel_rfl)
  have R_1 := R_0.gn G1
  have D_1 := D_0.gn G1
  have Bl_1 := below_gn Bl_0 Hb_0 G1
  have Hb_1 := Nat.le_trans Hb_0 G1.size
  refine wl_p (ex_bs (vs := #[(0, (.int .u8 48))]) (by simp only [List.map_toArray, List.map_cons, List.map_nil, ev_const]) hr1) F2.l fun a3 u3 (h243_3 : a3.tmps.getD 243 undef = (.slice (some ⟨gs243_2, 0, none⟩) 1 1)) => ?_
  have F3 := F2.pt u3
  obtain ⟨v2, w2, hr2, R_2, G2⟩ := R_1.push (ty := 23) (n := 1) (c := 1) [48] Bs243_2_1 rfl Hb_1 (by first | omega | (simp only [List.length_append, List.length_replicate, List.length_take, List.length_cons, List.length_nil]; omega))
  have D_2 := D_1.row R_1 G2
  have Bl_2 := below_row Bl_1 Hb_1 R_1 G2
  have Hb_2 := Nat.le_trans Hb_1 G2.size
  refine wl_p (ex_app (u3.w h242_2) h243_3 hr2) F3.l fun a4 u4 (h244_4 : a4.tmps.getD 244 undef = v2) => ?_
  have F4 := F3.pt u4
  refine wl_p (ex_as h244_4) F4.l fun a5 u5 h0_5 => ?_
  have F5 := F4.pt u5
  change Code.wp _ _ _ _ _
  refine rg_list ?_
  have h240_5 := u5.w (u4.w (u3.w (u2.w (u1.w h240_0))))
  refine wl_p (ex_bin (vy := (.int .i64 1)) (v := (.int .i64 (j + 1 : Nat))) h240_5 rfl (bo_addi3 j 1 _ (by omega))) F5.l fun a6 u6 h245_6 => ?_
  have F6 := F5.pt u6
  refine wl_p (ex_mv h245_6) F6.l fun a7 u7 h240_7 => ?_
  have F7 := F6.pt u7
  have h2_7 := u7.w (u6.w (u5.w (u4.w (u3.w (u2.w (u1.w h2_0))))))
  have h3_7 := u7.w (u6.w (u5.w (u4.w (u3.w (u2.w (u1.w h3_0))))))
  have h4_7 := u7.w (u6.w (u5.w (u4.w (u3.w (u2.w (u1.w h4_0))))))
  have h5_7 := u7.w (u6.w (u5.w (u4.w (u3.w (u2.w (u1.w h5_0))))))
  have h23_7 := u7.w (u6.w (u5.w (u4.w (u3.w (u2.w (u1.w h23_0))))))
  have h27_7 := u7.w (u6.w (u5.w (u4.w (u3.w (u2.w (u1.w h27_0))))))
  have h28_7 := u7.w (u6.w (u5.w (u4.w (u3.w (u2.w (u1.w h28_0))))))
  have h29_7 := u7.w (u6.w (u5.w (u4.w (u3.w (u2.w (u1.w h29_0))))))
  have h239_7 := u7.w (u6.w (u5.w (u4.w (u3.w (u2.w (u1.w h239_0))))))
  exact hK _ _ ⟨⟨F7, ⟨_, (u7.w (u6.w h0_5)), R_2⟩, h2_7, h3_7, h4_7, h5_7, h23_7, h27_7, h28_7, h29_7, D_2, Bl_2, Hb_2⟩, h239_7, h240_7⟩
theorem ef8_exit (hJ : JB B w00 ds sval d3 d4 d5 e23 e27 e28 e29 l a0 w0) (h239_0 : a0.tmps.getD 239 undef = .int .i64 k) (h240_0 : a0.tmps.getD 240 undef = .int .i64 k) (hK : ∀ a, JB B w00 ds sval d3 d4 d5 e23 e27 e28 e29 l a w0 → Q .normal a w0) : (cat [1, 1, 0, 1, 0, 1, 1, 1, 0, 1, 1, 0, 1, 0, 1, 1, 1, 1, 1, 0, 1, 0, 0] efB).wp Tryz.prog (Exit.then (fun _ _ => False) (Exit.inBlock 8 Q)) a0 w0 := by
  change Code.wp _ (Code.seq _ _) _ _ _
  obtain ⟨F0, ⟨v0, h0_0, R_0⟩, h2_0, h3_0, h4_0, h5_0, h23_0, h27_0, h28_0, h29_0, D_0, Bl_0, Hb_0⟩ := hJ
  refine wp_seq ?_
  refine rg_list ?_
  refine wl_p (ex_bin (v := (.bool false)) h240_0 h239_0 (bo_lss_no _ _)) F0.l fun a1 u1 h241_1 => ?_
  have F1 := F0.pt u1
  change Code.wp _ _ _ _ _
  refine wp_seq ?_
  refine wp_cond_false h241_1 ?_
  refine wp_exit ?_
  try simp only [Exit.then]
  refine inBlock_exit ?_
  exact hK _ ⟨F1, ⟨_, (u1.w h0_0), R_0⟩, (u1.w h2_0), (u1.w h3_0), (u1.w h4_0), (u1.w h5_0), (u1.w h23_0), (u1.w h27_0), (u1.w h28_0), (u1.w h29_0), D_0, Bl_0, Hb_0⟩
theorem ef8_loop (hk100 : k ≤ 100) (hl : l.length ≤ 800) (hJ : JB B w00 ds sval d3 d4 d5 e23 e27 e28 e29 l a0 w0) (h1 : a0.tmps.getD 239 undef = .int .i64 k) (h2 : a0.tmps.getD 240 undef = .int .i64 0) (hK : ∀ a w, JB B w00 ds sval d3 d4 d5 e23 e27 e28 e29 (l ++ List.replicate k 48) a w → Q .normal a w) : (cat [1, 1, 0, 1, 0, 1, 1, 1, 0, 1, 1, 0, 1, 0, 1, 1, 1, 1, 1, 0, 1] efB).wp Tryz.prog Q a0 w0 := by
  change Code.wp _ (Code.block _ (Code.loop _)) _ _ _
  refine loop_n (si := 240) (m := k) (fun j a w => JB B w00 ds sval d3 d4 d5 e23 e27 e28 e29 (l ++ List.replicate j 48) a w ∧ a.tmps.getD 239 undef = .int .i64 k ∧ a.tmps.getD 240 undef = .int .i64 j) ⟨by simpa using hJ, h1, h2⟩ (fun _ _ _ h => h.2.2) ?_ ?_
  · rintro j a w hj ⟨hJ, h1, h2⟩ R hK
    refine ef8_round hj hk100 (by rw [List.length_append, List.length_replicate]; omega) hJ h1 h2 fun a' w' h => hK _ _ ?_
    obtain ⟨h4, h5, h6⟩ := h
    refine ⟨?_, h5, h6⟩
    rw [List.replicate_succ', ← List.append_assoc]; exact h4
  · rintro a w ⟨hJ, h1, h2⟩
    exact ef8_exit hJ h1 h2 fun a' hJ' => hK _ _ hJ'
theorem ef10_round {off : Nat} (hj : j < k) (hk100 : k ≤ 100) (hk : k ≤ ds.length - off) (hdl : ds.length ≤ 100) (hl : l.length ≤ 1000) (hJ : JB B w00 ds sval d3 d4 d5 e23 (.int .i64 off) e28 e29 l a0 w0) (h246_0 : a0.tmps.getD 246 undef = .int .i64 k) (h247_0 : a0.tmps.getD 247 undef = .int .i64 j)
    (hK : ∀ a w, (JB B w00 ds sval d3 d4 d5 e23 (.int .i64 off) e28 e29 (l ++ [ds[off + j]]) a w ∧ a.tmps.getD 246 undef = .int .i64 k ∧ a.tmps.getD 247 undef = .int .i64 (j + 1 : Nat)) → Q .normal a w) : (cat [1, 1, 0, 1, 0, 1, 1, 1, 0, 1, 1, 0, 1, 0, 1, 1, 1, 1, 1, 1, 0, 1, 0, 0] efB).wp Tryz.prog Q a0 w0 := by
  change Code.wp _ (Code.seq _ _) _ _ _
  obtain ⟨F0, ⟨v0, h0_0, R_0⟩, h2_0, h3_0, h4_0, h5_0, h23_0, h27_0, h28_0, h29_0, D_0, Bl_0, Hb_0⟩ := hJ
  obtain ⟨ad, hix, hcell⟩ := D_0.elem (j := off + j) (by omega)
  refine wp_seq ?_
  refine rg_list ?_
  refine wl_p (ex_bin (v := (.bool true)) h247_0 h246_0 (bo_lss_yes _ _ hj _)) F0.l fun a1 u1 h248_1 => ?_
  have F1 := F0.pt u1
  change Code.wp _ _ _ _ _
  refine wp_seq ?_
  refine wp_cond_true h248_1 ?_
  refine wp_skip ?_
  change Code.wp _ _ _ _ _
  refine wp_seq ?_
  refine wp_block ?_
  refine wp_seq ?_
  refine rg_list ?_
  refine wl_p (ex_mv (u1.w h247_0)) F1.l fun a2 u2 h249_2 => ?_
  have F2 := F1.pt u2
  refine wl_p (ex_as h249_2) F2.l fun a3 u3 h30_3 => ?_
  have F3 := F2.pt u3
  change Code.wp _ _ _ _ _
  refine rg_list ?_
  have h0_3 := u3.w (u2.w (u1.w h0_0))
  refine wl_p (ex_mv h0_3) F3.l fun a4 u4 h250_4 => ?_
  have F4 := F3.pt u4
  have h2_4 := u4.w (u3.w (u2.w (u1.w h2_0)))
  refine wl_p (ex_mv h2_4) F4.l fun a5 u5 h251_5 => ?_
  have F5 := F4.pt u5
  have h27_5 := u5.w (u4.w (u3.w (u2.w (u1.w h27_0))))
  refine wl_p (ex_mv h27_5) F5.l fun a6 u6 h252_6 => ?_
  have F6 := F5.pt u6
  have h30_6 := u6.w (u5.w (u4.w h30_3))
  refine wl_p (ex_mv h30_6) F6.l fun a7 u7 h253_7 => ?_
  have F7 := F6.pt u7
  refine wl_p (ex_bin (v := (.int .i64 (off + j : Nat))) (u7.w h252_6) h253_7 (bo_addi3 off j _ (by omega))) F7.l fun a8 u8 h254_8 => ?_
  have F8 := F7.pt u8
  have h251_8 := u8.w (u7.w (u6.w h251_5))
  refine wl_p (ex_ixg (v := .pointer (some ad)) h251_8 h254_8 (hix _)) F8.l fun a9 u9 h255_9 => ?_
  have F9 := F8.pt u9
  refine wl_p (ex_le (v := .int .u8 (ds[off + j].toNat)) h255_9 hcell) F9.l fun a10 u10 h256_10 => ?_
  have F10 := F9.pt u10
  obtain ⟨gs257_10, hgs257_10⟩ : ∃ g, w0.heap.size = g := ⟨_, rfl⟩
  obtain ⟨w1, hr1, Bs257_10_1, G1, hs1⟩ := bs_run (op := Instr.buildSlice 23 1 #[(0, (.int .u8 (ds[off + j].toNat)))]) (n := 1) (T := 5) (cs := #[(.int .u8 (ds[off + j].toNat))]) hgs257_10 (fun _ => by kernel_rfl)
  have R_1 := R_0.gn G1
  have D_1 := D_0.gn G1
  have Bl_1 := below_gn Bl_0 Hb_0 G1
  have Hb_1 := Nat.le_trans Hb_0 G1.size
  refine wl_p (ex_bs (vs := #[(0, (.int .u8 (ds[off + j].toNat)))]) (by have e0 : a10.eval (.tmp 256) = (.int .u8 (ds[off + j].toNat)) := h256_10; simp only [List.map_toArray, List.map_cons, List.map_nil, e0]) hr1) F10.l fun a11 u11 (h257_11 : a11.tmps.getD 257 undef = (.slice (some ⟨gs257_10, 0, none⟩) 1 1)) => ?_
  have F11 := F10.pt u11
  obtain ⟨v2, w2, hr2, R_2, G2⟩ := R_1.push (ty := 23) (n := 1) (c := 1) [ds[off + j]] Bs257_10_1 rfl Hb_1 (by first | omega | (simp only [List.length_append, List.length_replicate, List.length_take, List.length_cons, List.length_nil]; omega))
  have D_2 := D_1.row R_1 G2
  have Bl_2 := below_row Bl_1 Hb_1 R_1 G2
  have Hb_2 := Nat.le_trans Hb_1 G2.size
  have h250_11 := u11.w (u10.w (u9.w (u8.w (u7.w (u6.w (u5.w h250_4))))))
  refine wl_p (ex_app h250_11 h257_11 hr2) F11.l fun a12 u12 (h258_12 : a12.tmps.getD 258 undef = v2) => ?_
  have F12 := F11.pt u12
  refine wl_p (ex_as h258_12) F12.l fun a13 u13 h0_13 => ?_
  have F13 := F12.pt u13
  change Code.wp _ _ _ _ _
  refine rg_list ?_
  have h247_13 := u13.w (u12.w (u11.w (u10.w (u9.w (u8.w (u7.w (u6.w (u5.w (u4.w (u3.w (u2.w (u1.w h247_0))))))))))))
  refine wl_p (ex_bin (vy := (.int .i64 1)) (v := (.int .i64 (j + 1 : Nat))) h247_13 rfl (bo_addi3 j 1 _ (by omega))) F13.l fun a14 u14 h259_14 => ?_
  have F14 := F13.pt u14
  refine wl_p (ex_mv h259_14) F14.l fun a15 u15 h247_15 => ?_
  have F15 := F14.pt u15
  have h2_15 := u15.w (u14.w (u13.w (u12.w (u11.w (u10.w (u9.w (u8.w (u7.w (u6.w (u5.w h2_4))))))))))
  have h3_15 := u15.w (u14.w (u13.w (u12.w (u11.w (u10.w (u9.w (u8.w (u7.w (u6.w (u5.w (u4.w (u3.w (u2.w (u1.w h3_0))))))))))))))
  have h4_15 := u15.w (u14.w (u13.w (u12.w (u11.w (u10.w (u9.w (u8.w (u7.w (u6.w (u5.w (u4.w (u3.w (u2.w (u1.w h4_0))))))))))))))
  have h5_15 := u15.w (u14.w (u13.w (u12.w (u11.w (u10.w (u9.w (u8.w (u7.w (u6.w (u5.w (u4.w (u3.w (u2.w (u1.w h5_0))))))))))))))
  have h23_15 := u15.w (u14.w (u13.w (u12.w (u11.w (u10.w (u9.w (u8.w (u7.w (u6.w (u5.w (u4.w (u3.w (u2.w (u1.w h23_0))))))))))))))
  have h27_15 := u15.w (u14.w (u13.w (u12.w (u11.w (u10.w (u9.w (u8.w (u7.w (u6.w h27_5)))))))))
  have h28_15 := u15.w (u14.w (u13.w (u12.w (u11.w (u10.w (u9.w (u8.w (u7.w (u6.w (u5.w (u4.w (u3.w (u2.w (u1.w h28_0))))))))))))))
  have h29_15 := u15.w (u14.w (u13.w (u12.w (u11.w (u10.w (u9.w (u8.w (u7.w (u6.w (u5.w (u4.w (u3.w (u2.w (u1.w h29_0))))))))))))))
  have h246_15 := u15.w (u14.w (u13.w (u12.w (u11.w (u10.w (u9.w (u8.w (u7.w (u6.w (u5.w (u4.w (u3.w (u2.w (u1.w h246_0))))))))))))))
  exact hK _ _ ⟨⟨F15, ⟨_, (u15.w (u14.w h0_13)), R_2⟩, h2_15, h3_15, h4_15, h5_15, h23_15, h27_15, h28_15, h29_15, D_2, Bl_2, Hb_2⟩, h246_15, h247_15⟩
theorem ef10_exit {off : Nat} (hJ : JB B w00 ds sval d3 d4 d5 e23 (.int .i64 off) e28 e29 l a0 w0) (h246_0 : a0.tmps.getD 246 undef = .int .i64 k) (h247_0 : a0.tmps.getD 247 undef = .int .i64 k) (hK : ∀ a, JB B w00 ds sval d3 d4 d5 e23 (.int .i64 off) e28 e29 l a w0 → Q .normal a w0) : (cat [1, 1, 0, 1, 0, 1, 1, 1, 0, 1, 1, 0, 1, 0, 1, 1, 1, 1, 1, 1, 0, 1, 0, 0] efB).wp Tryz.prog (Exit.then (fun _ _ => False) (Exit.inBlock 10 Q)) a0 w0 := by
  change Code.wp _ (Code.seq _ _) _ _ _
  obtain ⟨F0, ⟨v0, h0_0, R_0⟩, h2_0, h3_0, h4_0, h5_0, h23_0, h27_0, h28_0, h29_0, D_0, Bl_0, Hb_0⟩ := hJ
  refine wp_seq ?_
  refine rg_list ?_
  refine wl_p (ex_bin (v := (.bool false)) h247_0 h246_0 (bo_lss_no _ _)) F0.l fun a1 u1 h248_1 => ?_
  have F1 := F0.pt u1
  change Code.wp _ _ _ _ _
  refine wp_seq ?_
  refine wp_cond_false h248_1 ?_
  refine wp_exit ?_
  try simp only [Exit.then]
  refine inBlock_exit ?_
  exact hK _ ⟨F1, ⟨_, (u1.w h0_0), R_0⟩, (u1.w h2_0), (u1.w h3_0), (u1.w h4_0), (u1.w h5_0), (u1.w h23_0), (u1.w h27_0), (u1.w h28_0), (u1.w h29_0), D_0, Bl_0, Hb_0⟩
theorem ef10_loop {off : Nat} (hk100 : k ≤ 100) (hk : k ≤ ds.length - off) (hdl : ds.length ≤ 100) (hl : l.length ≤ 800) (hJ : JB B w00 ds sval d3 d4 d5 e23 (.int .i64 off) e28 e29 l a0 w0) (h1 : a0.tmps.getD 246 undef = .int .i64 k) (h2 : a0.tmps.getD 247 undef = .int .i64 0) (hK : ∀ a w, JB B w00 ds sval d3 d4 d5 e23 (.int .i64 off) e28 e29 (l ++ (ds.drop off).take k) a w → Q .normal a w) : (cat [1, 1, 0, 1, 0, 1, 1, 1, 0, 1, 1, 0, 1, 0, 1, 1, 1, 1, 1, 1, 0, 1] efB).wp Tryz.prog Q a0 w0 := by
  change Code.wp _ (Code.block _ (Code.loop _)) _ _ _
  refine loop_n (si := 247) (m := k) (fun j a w => JB B w00 ds sval d3 d4 d5 e23 (.int .i64 off) e28 e29 (l ++ (ds.drop off).take j) a w ∧ a.tmps.getD 246 undef = .int .i64 k ∧ a.tmps.getD 247 undef = .int .i64 j) ⟨by simpa using hJ, h1, h2⟩ (fun _ _ _ h => h.2.2) ?_ ?_
  · rintro j a w hj ⟨hJ, h1, h2⟩ R hK
    refine ef10_round hj hk100 hk hdl (by rw [List.length_append, List.length_take]; omega) hJ h1 h2 fun a' w' h => hK _ _ ?_
    obtain ⟨h4, h5, h6⟩ := h
    refine ⟨?_, h5, h6⟩
    rw [List.take_succ_eq_append_getElem (by rw [List.length_drop]; omega), List.getElem_drop, ← List.append_assoc]; exact h4
  · rintro a w ⟨hJ, h1, h2⟩
    exact ef10_exit hJ h1 h2 fun a' hJ' => hK _ _ hJ'
theorem ef12_round (hj : j < k) (hk100 : k ≤ 100) (hl : l.length ≤ 1000) (hJ : JB B w00 ds sval d3 d4 d5 e23 e27 e28 e29 l a0 w0) (h260_0 : a0.tmps.getD 260 undef = .int .i64 k) (h261_0 : a0.tmps.getD 261 undef = .int .i64 j)
    (hK : ∀ a w, (JB B w00 ds sval d3 d4 d5 e23 e27 e28 e29 (l ++ [48]) a w ∧ a.tmps.getD 260 undef = .int .i64 k ∧ a.tmps.getD 261 undef = .int .i64 (j + 1 : Nat)) → Q .normal a w) : (cat [1, 1, 0, 1, 0, 1, 1, 1, 0, 1, 1, 0, 1, 0, 1, 1, 1, 1, 1, 1, 1, 1, 0, 0] efB).wp Tryz.prog Q a0 w0 := by
  change Code.wp _ (Code.seq _ _) _ _ _
  obtain ⟨F0, ⟨v0, h0_0, R_0⟩, h2_0, h3_0, h4_0, h5_0, h23_0, h27_0, h28_0, h29_0, D_0, Bl_0, Hb_0⟩ := hJ
  refine wp_seq ?_
  refine rg_list ?_
  refine wl_p (ex_bin (v := (.bool true)) h261_0 h260_0 (bo_lss_yes _ _ hj _)) F0.l fun a1 u1 h262_1 => ?_
  have F1 := F0.pt u1
  change Code.wp _ _ _ _ _
  refine wp_seq ?_
  refine wp_cond_true h262_1 ?_
  refine wp_skip ?_
  change Code.wp _ _ _ _ _
  refine wp_seq ?_
  refine wp_block ?_
  refine rg_list ?_
  refine wl_p (ex_mv (u1.w h0_0)) F1.l fun a2 u2 h263_2 => ?_
  have F2 := F1.pt u2
  obtain ⟨gs264_2, hgs264_2⟩ : ∃ g, w0.heap.size = g := ⟨_, rfl⟩
  obtain ⟨w1, hr1, Bs264_2_1, G1, hs1⟩ := bs_run (op := Instr.buildSlice 23 1 #[(0, (.int .u8 48))]) (n := 1) (T := 5) (cs := #[(.int .u8 48)]) hgs264_2 (fun _ => by kernel_rfl)
  have R_1 := R_0.gn G1
  have D_1 := D_0.gn G1
  have Bl_1 := below_gn Bl_0 Hb_0 G1
  have Hb_1 := Nat.le_trans Hb_0 G1.size
  refine wl_p (ex_bs (vs := #[(0, (.int .u8 48))]) (by simp only [List.map_toArray, List.map_cons, List.map_nil, ev_const]) hr1) F2.l fun a3 u3 (h264_3 : a3.tmps.getD 264 undef = (.slice (some ⟨gs264_2, 0, none⟩) 1 1)) => ?_
  have F3 := F2.pt u3
  obtain ⟨v2, w2, hr2, R_2, G2⟩ := R_1.push (ty := 23) (n := 1) (c := 1) [48] Bs264_2_1 rfl Hb_1 (by first | omega | (simp only [List.length_append, List.length_replicate, List.length_take, List.length_cons, List.length_nil]; omega))
  have D_2 := D_1.row R_1 G2
  have Bl_2 := below_row Bl_1 Hb_1 R_1 G2
  have Hb_2 := Nat.le_trans Hb_1 G2.size
  refine wl_p (ex_app (u3.w h263_2) h264_3 hr2) F3.l fun a4 u4 (h265_4 : a4.tmps.getD 265 undef = v2) => ?_
  have F4 := F3.pt u4
  refine wl_p (ex_as h265_4) F4.l fun a5 u5 h0_5 => ?_
  have F5 := F4.pt u5
  change Code.wp _ _ _ _ _
  refine rg_list ?_
  have h261_5 := u5.w (u4.w (u3.w (u2.w (u1.w h261_0))))
  refine wl_p (ex_bin (vy := (.int .i64 1)) (v := (.int .i64 (j + 1 : Nat))) h261_5 rfl (bo_addi3 j 1 _ (by omega))) F5.l fun a6 u6 h266_6 => ?_
  have F6 := F5.pt u6
  refine wl_p (ex_mv h266_6) F6.l fun a7 u7 h261_7 => ?_
  have F7 := F6.pt u7
  have h2_7 := u7.w (u6.w (u5.w (u4.w (u3.w (u2.w (u1.w h2_0))))))
  have h3_7 := u7.w (u6.w (u5.w (u4.w (u3.w (u2.w (u1.w h3_0))))))
  have h4_7 := u7.w (u6.w (u5.w (u4.w (u3.w (u2.w (u1.w h4_0))))))
  have h5_7 := u7.w (u6.w (u5.w (u4.w (u3.w (u2.w (u1.w h5_0))))))
  have h23_7 := u7.w (u6.w (u5.w (u4.w (u3.w (u2.w (u1.w h23_0))))))
  have h27_7 := u7.w (u6.w (u5.w (u4.w (u3.w (u2.w (u1.w h27_0))))))
  have h28_7 := u7.w (u6.w (u5.w (u4.w (u3.w (u2.w (u1.w h28_0))))))
  have h29_7 := u7.w (u6.w (u5.w (u4.w (u3.w (u2.w (u1.w h29_0))))))
  have h260_7 := u7.w (u6.w (u5.w (u4.w (u3.w (u2.w (u1.w h260_0))))))
  exact hK _ _ ⟨⟨F7, ⟨_, (u7.w (u6.w h0_5)), R_2⟩, h2_7, h3_7, h4_7, h5_7, h23_7, h27_7, h28_7, h29_7, D_2, Bl_2, Hb_2⟩, h260_7, h261_7⟩
theorem ef12_exit (hJ : JB B w00 ds sval d3 d4 d5 e23 e27 e28 e29 l a0 w0) (h260_0 : a0.tmps.getD 260 undef = .int .i64 k) (h261_0 : a0.tmps.getD 261 undef = .int .i64 k) (hK : ∀ a, JB B w00 ds sval d3 d4 d5 e23 e27 e28 e29 l a w0 → Q .normal a w0) : (cat [1, 1, 0, 1, 0, 1, 1, 1, 0, 1, 1, 0, 1, 0, 1, 1, 1, 1, 1, 1, 1, 1, 0, 0] efB).wp Tryz.prog (Exit.then (fun _ _ => False) (Exit.inBlock 12 Q)) a0 w0 := by
  change Code.wp _ (Code.seq _ _) _ _ _
  obtain ⟨F0, ⟨v0, h0_0, R_0⟩, h2_0, h3_0, h4_0, h5_0, h23_0, h27_0, h28_0, h29_0, D_0, Bl_0, Hb_0⟩ := hJ
  refine wp_seq ?_
  refine rg_list ?_
  refine wl_p (ex_bin (v := (.bool false)) h261_0 h260_0 (bo_lss_no _ _)) F0.l fun a1 u1 h262_1 => ?_
  have F1 := F0.pt u1
  change Code.wp _ _ _ _ _
  refine wp_seq ?_
  refine wp_cond_false h262_1 ?_
  refine wp_exit ?_
  try simp only [Exit.then]
  refine inBlock_exit ?_
  exact hK _ ⟨F1, ⟨_, (u1.w h0_0), R_0⟩, (u1.w h2_0), (u1.w h3_0), (u1.w h4_0), (u1.w h5_0), (u1.w h23_0), (u1.w h27_0), (u1.w h28_0), (u1.w h29_0), D_0, Bl_0, Hb_0⟩
theorem ef12_loop (hk100 : k ≤ 100) (hl : l.length ≤ 800) (hJ : JB B w00 ds sval d3 d4 d5 e23 e27 e28 e29 l a0 w0) (h1 : a0.tmps.getD 260 undef = .int .i64 k) (h2 : a0.tmps.getD 261 undef = .int .i64 0) (hK : ∀ a w, JB B w00 ds sval d3 d4 d5 e23 e27 e28 e29 (l ++ List.replicate k 48) a w → Q .normal a w) : (cat [1, 1, 0, 1, 0, 1, 1, 1, 0, 1, 1, 0, 1, 0, 1, 1, 1, 1, 1, 1, 1, 1] efB).wp Tryz.prog Q a0 w0 := by
  change Code.wp _ (Code.block _ (Code.loop _)) _ _ _
  refine loop_n (si := 261) (m := k) (fun j a w => JB B w00 ds sval d3 d4 d5 e23 e27 e28 e29 (l ++ List.replicate j 48) a w ∧ a.tmps.getD 260 undef = .int .i64 k ∧ a.tmps.getD 261 undef = .int .i64 j) ⟨by simpa using hJ, h1, h2⟩ (fun _ _ _ h => h.2.2) ?_ ?_
  · rintro j a w hj ⟨hJ, h1, h2⟩ R hK
    refine ef12_round hj hk100 (by rw [List.length_append, List.length_replicate]; omega) hJ h1 h2 fun a' w' h => hK _ _ ?_
    obtain ⟨h4, h5, h6⟩ := h
    refine ⟨?_, h5, h6⟩
    rw [List.replicate_succ', ← List.append_assoc]; exact h4
  · rintro a w ⟨hJ, h1, h2⟩
    exact ef12_exit hJ h1 h2 fun a' hJ' => hK _ _ hJ'
theorem efg_A (hds : 0 < dp → 0 < ds.length) (hdl : ds.length ≤ 30) (hdp30 : dp ≤ 30) (hl : l.length ≤ 100) (hJ : JB B w00 ds sval (.int .i64 dp) (.int .i64 ds.length) (.int .i64 prec) undef undef undef undef l a0 w0) (hK : ∀ a w x23, JB B w00 ds sval (.int .i64 dp) (.int .i64 ds.length) (.int .i64 prec) x23 undef undef undef (l ++ (if 0 < dp then ds.take (min ds.length dp) ++ List.replicate (dp - min ds.length dp) 48 else [48])) a w → Q .normal a w) : (cat [1, 1, 0, 1, 0, 1, 1, 1, 0, 1, 0] efB).wp Tryz.prog Q a0 w0 := by
  obtain ⟨F0, ⟨v0, h0_0, R_0⟩, h2_0, h3_0, h4_0, h5_0, h23_0, h27_0, h28_0, h29_0, D_0, Bl_0, Hb_0⟩ := hJ
  change Code.wp _ (Code.seq (Code.region _ _ _) (Code.cond _ _ _)) _ _ _
  refine wp_seq ?_
  refine rg_list ?_
  refine wl_p (ex_mv h3_0) F0.l fun a1 u1 h182_1 => ?_
  have F1 := F0.pt u1
  refine wl_p (ex_bin (vy := (.int .i64 0)) (v := (.bool (decide (0 < dp)))) h182_1 rfl (bo_gtr0 dp _)) F1.l fun a2 u2 h183_2 => ?_
  have F2 := F1.pt u2
  change Code.wp _ _ _ _ _
  by_cases hdp : 0 < dp
  · refine wp_cond_true (h183_2.trans (by rw [decide_eq_true hdp])) ?_
    refine wp_seq ?_
    refine rg_list ?_
    refine wl_p (ex_mv (u2.w (u1.w h4_0))) F2.l fun a3 u3 h184_3 => ?_
    have F3 := F2.pt u3
    have h3_3 := u3.w (u2.w (u1.w h3_0))
    refine wl_p (ex_mv h3_3) F3.l fun a4 u4 h185_4 => ?_
    have F4 := F3.pt u4
    refine wl_p (ex_bi (w' := w0) (args := #[(.int .i64 ds.length), (.int .i64 dp)]) (v := (.int .i64 (min ds.length dp : Nat))) (arg2 (u4.w h184_3) h185_4) (minN_run _ _ _)) F4.l fun a5 u5 h186_5 => ?_
    have F5 := F4.pt u5
    refine wl_p (ex_as h186_5) F5.l fun a6 u6 h23_6 => ?_
    have F6 := F5.pt u6
    change Code.wp _ _ _ _ _
    refine wp_seq ?_
    refine wp_seq ?_
    refine rg_list ?_
    have h2_6 := u6.w (u5.w (u4.w (u3.w (u2.w (u1.w h2_0)))))
    refine wl_p (ex_mv h2_6) F6.l fun a7 u7 h187_7 => ?_
    have F7 := F6.pt u7
    refine wl_p (ex_mv (u7.w h23_6)) F7.l fun a8 u8 h188_8 => ?_
    have F8 := F7.pt u8
    obtain ⟨mm, hmm⟩ : ∃ mm, min ds.length dp = mm := ⟨_, rfl⟩
    have hmd : mm ≤ ds.length := by omega
    obtain ⟨sv2, hsl, hlen, hel⟩ := D_0.slice hmd (hds hdp)
    have h23_8 := u8.w (u7.w h23_6)
    rw [hmm] at h188_8 h23_8
    refine wl_p (ex_sl (v := sv2) (u8.w h187_7) rfl (congrArg some h188_8) rfl (hsl _)) F8.l fun a9 u9 h189_9 => ?_
    have F9 := F8.pt u9
    refine wl_p (ex_bi (w' := w0) (args := #[sv2]) (v := (.int .i64 mm)) (arg1 h189_9) (hlen _)) F9.l fun a10 u10 h190_10 => ?_
    have F10 := F9.pt u10
    refine wl_p (ex_mv (v := (.int .i64 0)) rfl) F10.l fun a11 u11 h191_11 => ?_
    have F11 := F10.pt u11
    change Code.wp _ _ _ _ _
    have h0_11 := u11.w (u10.w (u9.w (u8.w (u7.w (u6.w (u5.w (u4.w (u3.w (u2.w (u1.w h0_0))))))))))
    have h2_11 := u11.w (u10.w (u9.w (u8.w (u7.w h2_6))))
    have h3_11 := u11.w (u10.w (u9.w (u8.w (u7.w (u6.w (u5.w (u4.w h3_3)))))))
    have h4_11 := u11.w (u10.w (u9.w (u8.w (u7.w (u6.w (u5.w (u4.w (u3.w (u2.w (u1.w h4_0))))))))))
    have h5_11 := u11.w (u10.w (u9.w (u8.w (u7.w (u6.w (u5.w (u4.w (u3.w (u2.w (u1.w h5_0))))))))))
    have h23_11 := u11.w (u10.w (u9.w h23_8))
    have h27_11 := u11.w (u10.w (u9.w (u8.w (u7.w (u6.w (u5.w (u4.w (u3.w (u2.w (u1.w h27_0))))))))))
    have h28_11 := u11.w (u10.w (u9.w (u8.w (u7.w (u6.w (u5.w (u4.w (u3.w (u2.w (u1.w h28_0))))))))))
    have h29_11 := u11.w (u10.w (u9.w (u8.w (u7.w (u6.w (u5.w (u4.w (u3.w (u2.w (u1.w h29_0))))))))))
    refine ef4_loop (sv2 := sv2) (k := mm) (by omega) hmd hel (by omega) ⟨F11, ⟨_, h0_11, R_0⟩, h2_11, h3_11, h4_11, h5_11, h23_11, h27_11, h28_11, h29_11, D_0, Bl_0, Hb_0⟩ (u11.w h190_10) h191_11 (u11.w (u10.w h189_9)) fun a12 w1 hJ => ?_
    obtain ⟨F12, ⟨v1, h0_12, R_1⟩, h2_12, h3_12, h4_12, h5_12, h23_12, h27_12, h28_12, h29_12, D_1, Bl_1, Hb_1⟩ := hJ
    change Code.wp _ _ _ _ _
    refine wp_seq ?_
    refine rg_list ?_
    refine wl_p (ex_mv h3_12) F12.l fun a13 u13 h200_13 => ?_
    have F13 := F12.pt u13
    refine wl_p (ex_mv (u13.w h23_12)) F13.l fun a14 u14 h201_14 => ?_
    have F14 := F13.pt u14
    refine wl_p (ex_bin (v := (.int .i64 (dp - mm : Nat))) (u14.w h200_13) h201_14 (bo_subn dp mm (by omega) _ (by omega))) F14.l fun a15 u15 h202_15 => ?_
    have F15 := F14.pt u15
    refine wl_p (ex_mv (v := (.int .i64 0)) rfl) F15.l fun a16 u16 h203_16 => ?_
    have F16 := F15.pt u16
    change Code.wp _ _ _ _ _
    have h0_16 := u16.w (u15.w (u14.w (u13.w h0_12)))
    have h2_16 := u16.w (u15.w (u14.w (u13.w h2_12)))
    have h3_16 := u16.w (u15.w (u14.w (u13.w h3_12)))
    have h4_16 := u16.w (u15.w (u14.w (u13.w h4_12)))
    have h5_16 := u16.w (u15.w (u14.w (u13.w h5_12)))
    have h23_16 := u16.w (u15.w (u14.w (u13.w h23_12)))
    have h27_16 := u16.w (u15.w (u14.w (u13.w h27_12)))
    have h28_16 := u16.w (u15.w (u14.w (u13.w h28_12)))
    have h29_16 := u16.w (u15.w (u14.w (u13.w h29_12)))
    refine ef6_loop (k := dp - mm) (by omega) (by rw [List.length_append, List.length_take]; omega) ⟨F16, ⟨_, h0_16, R_1⟩, h2_16, h3_16, h4_16, h5_16, h23_16, h27_16, h28_16, h29_16, D_1, Bl_1, Hb_1⟩ (u16.w h202_15) h203_16 fun a17 w2 hJ => ?_
    obtain ⟨F17, ⟨v2, h0_17, R_2⟩, h2_17, h3_17, h4_17, h5_17, h23_17, h27_17, h28_17, h29_17, D_2, Bl_2, Hb_2⟩ := hJ
    refine hK _ _ (.int .i64 mm) ?_
    rw [if_pos hdp, hmm, ← List.append_assoc]
    exact ⟨F17, ⟨_, h0_17, R_2⟩, h2_17, h3_17, h4_17, h5_17, h23_17, h27_17, h28_17, h29_17, D_2, Bl_2, Hb_2⟩
  · refine wp_cond_false (h183_2.trans (by rw [decide_eq_false hdp])) ?_
    refine rg_list ?_
    refine wl_p (ex_mv (u2.w (u1.w h0_0))) F2.l fun a3 u3 h209_3 => ?_
    have F3 := F2.pt u3
    obtain ⟨gs210_3, hgs210_3⟩ : ∃ g, w0.heap.size = g := ⟨_, rfl⟩
    obtain ⟨w1, hr1, Bs210_3_1, G1, hs1⟩ := bs_run (op := Instr.buildSlice 23 1 #[(0, (.int .u8 48))]) (n := 1) (T := 5) (cs := #[(.int .u8 48)]) hgs210_3 (fun _ => by kernel_rfl)
    have R_1 := R_0.gn G1
    have D_1 := D_0.gn G1
    have Bl_1 := below_gn Bl_0 Hb_0 G1
    have Hb_1 := Nat.le_trans Hb_0 G1.size
    refine wl_p (ex_bs (vs := #[(0, (.int .u8 48))]) (by simp only [List.map_toArray, List.map_cons, List.map_nil, ev_const]) hr1) F3.l fun a4 u4 (h210_4 : a4.tmps.getD 210 undef = (.slice (some ⟨gs210_3, 0, none⟩) 1 1)) => ?_
    have F4 := F3.pt u4
    obtain ⟨v2, w2, hr2, R_2, G2⟩ := R_1.push (ty := 23) (n := 1) (c := 1) [48] Bs210_3_1 rfl Hb_1 (by first | omega | (simp only [List.length_append, List.length_replicate, List.length_take, List.length_cons, List.length_nil]; omega))
    have D_2 := D_1.row R_1 G2
    have Bl_2 := below_row Bl_1 Hb_1 R_1 G2
    have Hb_2 := Nat.le_trans Hb_1 G2.size
    refine wl_p (ex_app (u4.w h209_3) h210_4 hr2) F4.l fun a5 u5 (h211_5 : a5.tmps.getD 211 undef = v2) => ?_
    have F5 := F4.pt u5
    refine wl_p (ex_as h211_5) F5.l fun a6 u6 h0_6 => ?_
    have F6 := F5.pt u6
    refine hK _ _ undef ?_
    rw [if_neg hdp]
    have h2_6 := u6.w (u5.w (u4.w (u3.w (u2.w (u1.w h2_0)))))
    have h3_6 := u6.w (u5.w (u4.w (u3.w (u2.w (u1.w h3_0)))))
    have h4_6 := u6.w (u5.w (u4.w (u3.w (u2.w (u1.w h4_0)))))
    have h5_6 := u6.w (u5.w (u4.w (u3.w (u2.w (u1.w h5_0)))))
    have h23_6 := u6.w (u5.w (u4.w (u3.w (u2.w (u1.w h23_0)))))
    have h27_6 := u6.w (u5.w (u4.w (u3.w (u2.w (u1.w h27_0)))))
    have h28_6 := u6.w (u5.w (u4.w (u3.w (u2.w (u1.w h28_0)))))
    have h29_6 := u6.w (u5.w (u4.w (u3.w (u2.w (u1.w h29_0)))))
    exact ⟨F6, ⟨_, h0_6, R_2⟩, h2_6, h3_6, h4_6, h5_6, h23_6, h27_6, h28_6, h29_6, D_2, Bl_2, Hb_2⟩
theorem efg_B {x23 : Value} (hdl : ds.length ≤ 30) (hdp30 : dp ≤ 30) (hpr30 : prec ≤ 30) (hl : l.length ≤ 100) (hJ : JB B w00 ds sval (.int .i64 dp) (.int .i64 ds.length) (.int .i64 prec) x23 undef undef undef l a0 w0) (hK : ∀ a w x27 x28 x29, JB B w00 ds sval (.int .i64 dp) (.int .i64 ds.length) (.int .i64 prec) x23 x27 x28 x29 (l ++ (if 0 < prec then [46] ++ (ds.drop dp).take (min prec (ds.length - dp)) ++ List.replicate (prec - min prec (ds.length - dp)) 48 else [])) a w → Q .normal a w) : (cat [1, 1, 0, 1, 0, 1, 1, 1, 0, 1, 1, 0] efB).wp Tryz.prog Q a0 w0 := by
  obtain ⟨F0, ⟨v0, h0_0, R_0⟩, h2_0, h3_0, h4_0, h5_0, h23_0, h27_0, h28_0, h29_0, D_0, Bl_0, Hb_0⟩ := hJ
  change Code.wp _ (Code.seq (Code.region _ _ _) (Code.cond _ _ _)) _ _ _
  refine wp_seq ?_
  refine rg_list ?_
  refine wl_p (ex_mv h5_0) F0.l fun a1 u1 h212_1 => ?_
  have F1 := F0.pt u1
  refine wl_p (ex_bin (vy := (.int .i64 0)) (v := (.bool (decide (0 < prec)))) h212_1 rfl (bo_gtr0 prec _)) F1.l fun a2 u2 h213_2 => ?_
  have F2 := F1.pt u2
  change Code.wp _ _ _ _ _
  by_cases hpr : 0 < prec
  · refine wp_cond_true (h213_2.trans (by rw [decide_eq_true hpr])) ?_
    refine wp_seq ?_
    refine rg_list ?_
    refine wl_p (ex_mv (u2.w (u1.w h0_0))) F2.l fun a3 u3 h214_3 => ?_
    have F3 := F2.pt u3
    obtain ⟨gs215_3, hgs215_3⟩ : ∃ g, w0.heap.size = g := ⟨_, rfl⟩
    obtain ⟨w1, hr1, Bs215_3_1, G1, hs1⟩ := bs_run (op := Instr.buildSlice 23 1 #[(0, (.int .u8 46))]) (n := 1) (T := 5) (cs := #[(.int .u8 46)]) hgs215_3 (fun _ => by kernel_rfl)
    have R_1 := R_0.gn G1
    have D_1 := D_0.gn G1
    have Bl_1 := below_gn Bl_0 Hb_0 G1
    have Hb_1 := Nat.le_trans Hb_0 G1.size
    refine wl_p (ex_bs (vs := #[(0, (.int .u8 46))]) (by simp only [List.map_toArray, List.map_cons, List.map_nil, ev_const]) hr1) F3.l fun a4 u4 (h215_4 : a4.tmps.getD 215 undef = (.slice (some ⟨gs215_3, 0, none⟩) 1 1)) => ?_
    have F4 := F3.pt u4
    obtain ⟨v2, w2, hr2, R_2, G2⟩ := R_1.push (ty := 23) (n := 1) (c := 1) [46] Bs215_3_1 rfl Hb_1 (by first | omega | (simp only [List.length_append, List.length_replicate, List.length_take, List.length_cons, List.length_nil]; omega))
    have D_2 := D_1.row R_1 G2
    have Bl_2 := below_row Bl_1 Hb_1 R_1 G2
    have Hb_2 := Nat.le_trans Hb_1 G2.size
    refine wl_p (ex_app (u4.w h214_3) h215_4 hr2) F4.l fun a5 u5 (h216_5 : a5.tmps.getD 216 undef = v2) => ?_
    have F5 := F4.pt u5
    refine wl_p (ex_as h216_5) F5.l fun a6 u6 h0_6 => ?_
    have F6 := F5.pt u6
    change Code.wp _ _ _ _ _
    refine wp_seq ?_
    refine rg_list ?_
    have h5_6 := u6.w (u5.w (u4.w (u3.w (u2.w (u1.w h5_0)))))
    refine wl_p (ex_mv h5_6) F6.l fun a7 u7 h217_7 => ?_
    have F7 := F6.pt u7
    have h3_7 := u7.w (u6.w (u5.w (u4.w (u3.w (u2.w (u1.w h3_0))))))
    refine wl_p (ex_mv h3_7) F7.l fun a8 u8 h218_8 => ?_
    have F8 := F7.pt u8
    refine wl_p (ex_un (vx := (.int .i64 dp)) (v := .int .i64 (-dp)) h218_8 (uo_neg _ _ (by omega) (by omega))) F8.l fun a9 u9 h219_9 => ?_
    have F9 := F8.pt u9
    refine wl_p (ex_bi (w' := w2) (args := #[(.int .i64 0), (.int .i64 (-dp))]) (v := (.int .i64 (0 : Nat))) (arg2 rfl h219_9) ((max0_run _ _).trans (by rw [show (-(dp : Int)).toNat = 0 by omega]))) F9.l fun a10 u10 h220_10 => ?_
    have F10 := F9.pt u10
    have h217_10 := u10.w (u9.w (u8.w h217_7))
    refine wl_p (ex_bi (w' := w2) (args := #[(.int .i64 prec), (.int .i64 (0 : Nat))]) (v := (.int .i64 (0 : Nat))) (arg2 h217_10 h220_10) ((minN_run prec 0 _).trans (by rw [Nat.min_zero]))) F10.l fun a11 u11 h221_11 => ?_
    have F11 := F10.pt u11
    refine wl_p (ex_as h221_11) F11.l fun a12 u12 h26_12 => ?_
    have F12 := F11.pt u12
    change Code.wp _ _ _ _ _
    refine wp_seq ?_
    refine rg_list ?_
    have h3_12 := u12.w (u11.w (u10.w (u9.w (u8.w h3_7))))
    refine wl_p (ex_mv h3_12) F12.l fun a13 u13 h222_13 => ?_
    have F13 := F12.pt u13
    refine wl_p (ex_mv (u13.w h26_12)) F13.l fun a14 u14 h223_14 => ?_
    have F14 := F13.pt u14
    refine wl_p (ex_bin (v := (.int .i64 dp)) (u14.w h222_13) h223_14 (bo_addi3 dp 0 _ (by omega))) F14.l fun a15 u15 h224_15 => ?_
    have F15 := F14.pt u15
    refine wl_p (ex_as h224_15) F15.l fun a16 u16 h27_16 => ?_
    have F16 := F15.pt u16
    change Code.wp _ _ _ _ _
    refine wp_seq ?_
    refine rg_list ?_
    have h5_16 := u16.w (u15.w (u14.w (u13.w (u12.w (u11.w (u10.w (u9.w (u8.w (u7.w h5_6)))))))))
    refine wl_p (ex_mv h5_16) F16.l fun a17 u17 h225_17 => ?_
    have F17 := F16.pt u17
    have h26_17 := u17.w (u16.w (u15.w (u14.w (u13.w h26_12))))
    refine wl_p (ex_mv h26_17) F17.l fun a18 u18 h226_18 => ?_
    have F18 := F17.pt u18
    refine wl_p (ex_bin (v := (.int .i64 prec)) (u18.w h225_17) h226_18 (bo_subn prec 0 (by omega) _ (by omega))) F18.l fun a19 u19 h227_19 => ?_
    have F19 := F18.pt u19
    have h4_19 := u19.w (u18.w (u17.w (u16.w (u15.w (u14.w (u13.w (u12.w (u11.w (u10.w (u9.w (u8.w (u7.w (u6.w (u5.w (u4.w (u3.w (u2.w (u1.w h4_0))))))))))))))))))
    refine wl_p (ex_mv h4_19) F19.l fun a20 u20 h228_20 => ?_
    have F20 := F19.pt u20
    have h27_20 := u20.w (u19.w (u18.w (u17.w h27_16)))
    refine wl_p (ex_mv h27_20) F20.l fun a21 u21 h229_21 => ?_
    have F21 := F20.pt u21
    refine wl_p (ex_bin (v := (.int .i64 ((ds.length : Int) - dp))) (u21.w h228_20) h229_21 (bo_subi ds.length dp _ (by omega) (by omega))) F21.l fun a22 u22 h230_22 => ?_
    have F22 := F21.pt u22
    refine wl_p (ex_bi (w' := w2) (args := #[(.int .i64 0), (.int .i64 ((ds.length : Int) - dp))]) (v := (.int .i64 (ds.length - dp : Nat))) (arg2 rfl h230_22) ((max0_run _ _).trans (by rw [show ((ds.length : Int) - dp).toNat = ds.length - dp by omega]))) F22.l fun a23 u23 h231_23 => ?_
    have F23 := F22.pt u23
    have h227_23 := u23.w (u22.w (u21.w (u20.w h227_19)))
    refine wl_p (ex_bi (w' := w2) (args := #[(.int .i64 prec), (.int .i64 (ds.length - dp : Nat))]) (v := (.int .i64 (min prec (ds.length - dp) : Nat))) (arg2 h227_23 h231_23) (minN_run prec (ds.length - dp) _)) F23.l fun a24 u24 h232_24 => ?_
    have F24 := F23.pt u24
    refine wl_p (ex_as h232_24) F24.l fun a25 u25 h28_25 => ?_
    have F25 := F24.pt u25
    change Code.wp _ _ _ _ _
    refine wp_seq ?_
    refine rg_list ?_
    have h5_25 := u25.w (u24.w (u23.w (u22.w (u21.w (u20.w (u19.w (u18.w (u17.w h5_16))))))))
    refine wl_p (ex_mv h5_25) F25.l fun a26 u26 h233_26 => ?_
    have F26 := F25.pt u26
    have h26_26 := u26.w (u25.w (u24.w (u23.w (u22.w (u21.w (u20.w (u19.w (u18.w h26_17))))))))
    refine wl_p (ex_mv h26_26) F26.l fun a27 u27 h234_27 => ?_
    have F27 := F26.pt u27
    refine wl_p (ex_bin (v := (.int .i64 prec)) (u27.w h233_26) h234_27 (bo_subn prec 0 (by omega) _ (by omega))) F27.l fun a28 u28 h235_28 => ?_
    have F28 := F27.pt u28
    have h28_28 := u28.w (u27.w (u26.w h28_25))
    refine wl_p (ex_mv h28_28) F28.l fun a29 u29 h236_29 => ?_
    have F29 := F28.pt u29
    refine wl_p (ex_bin (v := (.int .i64 ((prec : Int) - (min prec (ds.length - dp) : Nat)))) (u29.w h235_28) h236_29 (bo_subi prec (min prec (ds.length - dp)) _ (by omega) (by omega))) F29.l fun a30 u30 h237_30 => ?_
    have F30 := F29.pt u30
    refine wl_p (ex_bi (w' := w2) (args := #[(.int .i64 0), (.int .i64 ((prec : Int) - (min prec (ds.length - dp) : Nat)))]) (v := (.int .i64 (prec - min prec (ds.length - dp) : Nat))) (arg2 rfl h237_30) ((max0_run _ _).trans (by rw [show ((prec : Int) - (min prec (ds.length - dp) : Nat)).toNat = prec - min prec (ds.length - dp) by omega]))) F30.l fun a31 u31 h238_31 => ?_
    have F31 := F30.pt u31
    refine wl_p (ex_as h238_31) F31.l fun a32 u32 h29_32 => ?_
    have F32 := F31.pt u32
    change Code.wp _ _ _ _ _
    refine wp_seq ?_
    refine wp_seq ?_
    refine rg_list ?_
    have h26_32 := u32.w (u31.w (u30.w (u29.w (u28.w (u27.w h26_26)))))
    refine wl_p (ex_mv h26_32) F32.l fun a33 u33 h239_33 => ?_
    have F33 := F32.pt u33
    refine wl_p (ex_mv (v := (.int .i64 0)) rfl) F33.l fun a34 u34 h240_34 => ?_
    have F34 := F33.pt u34
    change Code.wp _ _ _ _ _
    have h0_34 := u34.w (u33.w (u32.w (u31.w (u30.w (u29.w (u28.w (u27.w (u26.w (u25.w (u24.w (u23.w (u22.w (u21.w (u20.w (u19.w (u18.w (u17.w (u16.w (u15.w (u14.w (u13.w (u12.w (u11.w (u10.w (u9.w (u8.w (u7.w h0_6)))))))))))))))))))))))))))
    have h2_34 := u34.w (u33.w (u32.w (u31.w (u30.w (u29.w (u28.w (u27.w (u26.w (u25.w (u24.w (u23.w (u22.w (u21.w (u20.w (u19.w (u18.w (u17.w (u16.w (u15.w (u14.w (u13.w (u12.w (u11.w (u10.w (u9.w (u8.w (u7.w (u6.w (u5.w (u4.w (u3.w (u2.w (u1.w h2_0)))))))))))))))))))))))))))))))))
    have h3_34 := u34.w (u33.w (u32.w (u31.w (u30.w (u29.w (u28.w (u27.w (u26.w (u25.w (u24.w (u23.w (u22.w (u21.w (u20.w (u19.w (u18.w (u17.w (u16.w (u15.w (u14.w (u13.w h3_12)))))))))))))))))))))
    have h4_34 := u34.w (u33.w (u32.w (u31.w (u30.w (u29.w (u28.w (u27.w (u26.w (u25.w (u24.w (u23.w (u22.w (u21.w (u20.w h4_19))))))))))))))
    have h5_34 := u34.w (u33.w (u32.w (u31.w (u30.w (u29.w (u28.w (u27.w (u26.w h5_25))))))))
    have h23_34 := u34.w (u33.w (u32.w (u31.w (u30.w (u29.w (u28.w (u27.w (u26.w (u25.w (u24.w (u23.w (u22.w (u21.w (u20.w (u19.w (u18.w (u17.w (u16.w (u15.w (u14.w (u13.w (u12.w (u11.w (u10.w (u9.w (u8.w (u7.w (u6.w (u5.w (u4.w (u3.w (u2.w (u1.w h23_0)))))))))))))))))))))))))))))))))
    have h27_34 := u34.w (u33.w (u32.w (u31.w (u30.w (u29.w (u28.w (u27.w (u26.w (u25.w (u24.w (u23.w (u22.w (u21.w h27_20)))))))))))))
    have h28_34 := u34.w (u33.w (u32.w (u31.w (u30.w (u29.w h28_28)))))
    refine ef8_loop (k := 0) (by omega) (by simp only [List.length_append, List.length_cons, List.length_nil]; omega) ⟨F34, ⟨_, h0_34, R_2⟩, h2_34, h3_34, h4_34, h5_34, h23_34, h27_34, h28_34, (u34.w (u33.w h29_32)), D_2, Bl_2, Hb_2⟩ (u34.w h239_33) h240_34 fun a35 w3 hJ => ?_
    obtain ⟨F35, ⟨v3, h0_35, R_3⟩, h2_35, h3_35, h4_35, h5_35, h23_35, h27_35, h28_35, h29_35, D_3, Bl_3, Hb_3⟩ := hJ
    change Code.wp _ _ _ _ _
    refine wp_seq ?_
    refine wp_seq ?_
    refine rg_list ?_
    refine wl_p (ex_mv h28_35) F35.l fun a36 u36 h246_36 => ?_
    have F36 := F35.pt u36
    refine wl_p (ex_mv (v := (.int .i64 0)) rfl) F36.l fun a37 u37 h247_37 => ?_
    have F37 := F36.pt u37
    change Code.wp _ _ _ _ _
    refine ef10_loop (off := dp) (k := min prec (ds.length - dp)) (by omega) (by omega) (by omega) (by simp only [List.length_append, List.length_replicate, List.length_cons, List.length_nil]; omega) ⟨F37, ⟨_, (u37.w (u36.w h0_35)), R_3⟩, (u37.w (u36.w h2_35)), (u37.w (u36.w h3_35)), (u37.w (u36.w h4_35)), (u37.w (u36.w h5_35)), (u37.w (u36.w h23_35)), (u37.w (u36.w h27_35)), (u37.w (u36.w h28_35)), (u37.w (u36.w h29_35)), D_3, Bl_3, Hb_3⟩ (u37.w h246_36) h247_37 fun a38 w4 hJ => ?_
    obtain ⟨F38, ⟨v4, h0_38, R_4⟩, h2_38, h3_38, h4_38, h5_38, h23_38, h27_38, h28_38, h29_38, D_4, Bl_4, Hb_4⟩ := hJ
    change Code.wp _ _ _ _ _
    refine wp_seq ?_
    refine rg_list ?_
    refine wl_p (ex_mv h29_38) F38.l fun a39 u39 h260_39 => ?_
    have F39 := F38.pt u39
    refine wl_p (ex_mv (v := (.int .i64 0)) rfl) F39.l fun a40 u40 h261_40 => ?_
    have F40 := F39.pt u40
    change Code.wp _ _ _ _ _
    refine ef12_loop (k := prec - min prec (ds.length - dp)) (by omega) (by simp only [List.length_append, List.length_replicate, List.length_take, List.length_cons, List.length_nil]; omega) ⟨F40, ⟨_, (u40.w (u39.w h0_38)), R_4⟩, (u40.w (u39.w h2_38)), (u40.w (u39.w h3_38)), (u40.w (u39.w h4_38)), (u40.w (u39.w h5_38)), (u40.w (u39.w h23_38)), (u40.w (u39.w h27_38)), (u40.w (u39.w h28_38)), (u40.w (u39.w h29_38)), D_4, Bl_4, Hb_4⟩ (u40.w h260_39) h261_40 fun a41 w5 hJ => ?_
    obtain ⟨F41, ⟨v5, h0_41, R_5⟩, h2_41, h3_41, h4_41, h5_41, h23_41, h27_41, h28_41, h29_41, D_5, Bl_5, Hb_5⟩ := hJ
    refine hK _ _ (.int .i64 dp) (.int .i64 (min prec (ds.length - dp) : Nat)) (.int .i64 (prec - min prec (ds.length - dp) : Nat)) ?_
    rw [if_pos hpr]
    have h : JB B w00 ds sval (.int .i64 dp) (.int .i64 ds.length) (.int .i64 prec) x23 (.int .i64 dp) (.int .i64 (min prec (ds.length - dp) : Nat)) (.int .i64 (prec - min prec (ds.length - dp) : Nat)) ((((l ++ [46]) ++ List.replicate 0 48) ++ (ds.drop dp).take (min prec (ds.length - dp))) ++ List.replicate (prec - min prec (ds.length - dp)) 48) _ _ := ⟨F41, ⟨_, h0_41, R_5⟩, h2_41, h3_41, h4_41, h5_41, h23_41, h27_41, h28_41, h29_41, D_5, Bl_5, Hb_5⟩
    simpa only [List.replicate_zero, List.append_nil, List.append_assoc] using h
  · refine wp_cond_false (h213_2.trans (by rw [decide_eq_false hpr])) ?_
    refine wp_skip ?_
    refine hK _ _ undef undef undef ?_
    rw [if_neg hpr, List.append_nil]
    exact ⟨F2, ⟨_, (u2.w (u1.w h0_0)), R_0⟩, (u2.w (u1.w h2_0)), (u2.w (u1.w h3_0)), (u2.w (u1.w h4_0)), (u2.w (u1.w h5_0)), (u2.w (u1.w h23_0)), (u2.w (u1.w h27_0)), (u2.w (u1.w h28_0)), (u2.w (u1.w h29_0)), D_0, Bl_0, Hb_0⟩
end
theorem efg_len {ds : List UInt8} {dp : Nat} (hdl : ds.length ≤ 30) (hdp30 : dp ≤ 30) : (if 0 < dp then ds.take (min ds.length dp) ++ List.replicate (dp - min ds.length dp) 48 else [48]).length ≤ 60 := by
  split
  · rw [List.length_append, List.length_take, List.length_replicate]; omega
  · simp
theorem fmtEFG_any {B dp prec : Nat} {v0 sval : Value} {ds l : List UInt8} {shx : Bool} {w0 : World} (hR : BRow w0 B v0 l) (hD : Digs w0 sval ds) (hB : B ≤ w0.heap.size) (hds : 0 < dp → 0 < ds.length) (hdl : ds.length ≤ 30) (hdp30 : dp ≤ 30) (hpr30 : prec ≤ 30) (hl : l.length ≤ 20) :
    Calls Tryz.prog 83 #[v0, .bool false, sval, .int .i64 dp, .int .i64 ds.length, .int .i64 prec, .int .u8 102, .bool shx] w0 fun e w' => ∃ v, e = .returned v ∧ BRow w' B v (l ++ efgT ds dp prec) ∧ Below B w0 w' ∧ Digs w' sval ds := by
  refine calls_of_wp Tryz.func83 rfl ?_
  generalize hA : Act.mk _ _ = a0
  have F0 : Fz 272 a0 := by subst hA; exact ⟨by simp [Tryz.ntmps83], rfl⟩
  have h0_0 : a0.tmps.getD 0 undef = v0 := by subst hA; exact fr_arg rfl
  have h1_0 : a0.tmps.getD 1 undef = (.bool false) := by subst hA; exact fr_arg rfl
  have h2_0 : a0.tmps.getD 2 undef = sval := by subst hA; exact fr_arg rfl
  have h3_0 : a0.tmps.getD 3 undef = (.int .i64 dp) := by subst hA; exact fr_arg rfl
  have h4_0 : a0.tmps.getD 4 undef = (.int .i64 ds.length) := by subst hA; exact fr_arg rfl
  have h5_0 : a0.tmps.getD 5 undef = (.int .i64 prec) := by subst hA; exact fr_arg rfl
  have h6_0 : a0.tmps.getD 6 undef = (.int .u8 102) := by subst hA; exact fr_arg rfl
  have h7_0 : a0.tmps.getD 7 undef = (.bool shx) := by subst hA; exact fr_arg rfl
  have h29_0 : a0.tmps.getD 29 undef = undef := by subst hA; exact fr_undef (by simp)
  have h28_0 : a0.tmps.getD 28 undef = undef := by subst hA; exact fr_undef (by simp)
  have h27_0 : a0.tmps.getD 27 undef = undef := by subst hA; exact fr_undef (by simp)
  have h23_0 : a0.tmps.getD 23 undef = undef := by subst hA; exact fr_undef (by simp)
  clear hA
  have R_0 := hR
  have D_0 := hD
  have Bl_0 := Below.refl B w0
  have Hb_0 := hB
  refine wp_seq ?_
  refine rg_list ?_
  refine wl_p (ex_as (v := (.slice none 0 0)) rfl) F0.l fun a1 u1 h16_1 => ?_
  have F1 := F0.pt u1
  change Code.wp _ _ _ _ _
  refine wp_seq ?_
  refine wp_seq ?_
  refine rg_list ?_
  refine wl_p (ex_mv (u1.w h6_0)) F1.l fun a2 u2 h31_2 => ?_
  have F2 := F1.pt u2
  refine wl_p (ex_bin (vy := (.int .u8 103)) (v := (.bool false)) h31_2 rfl (by kernel_rfl)) F2.l fun a3 u3 h32_3 => ?_
  have F3 := F2.pt u3
  refine wl_p (ex_mv h32_3) F3.l fun a4 u4 h33_4 => ?_
  have F4 := F3.pt u4
  have h6_4 := u4.w (u3.w (u2.w (u1.w h6_0)))
  refine wl_g (yl (e := 33) rfl h33_4) (ex_mv h6_4) F4.l fun a5 u5 h34_5 => ?_
  have F5 := F4.pt u5
  refine wl_g (yl (e := 33) rfl (u5.w h33_4)) (ex_bin (vy := (.int .u8 71)) (v := (.bool false)) h34_5 rfl (by kernel_rfl)) F5.l fun a6 u6 h35_6 => ?_
  have F6 := F5.pt u6
  refine wl_p (ex_pick (q := false) (u6.w (u5.w h33_4)) h35_6) F6.l fun a7 u7 h36_7 => ?_
  have F7 := F6.pt u7
  change Code.wp _ _ _ _ _
  refine wp_cond_false h36_7 ?_
  refine wp_skip ?_
  change Code.wp _ _ _ _ _
  refine wp_seq ?_
  refine wp_seq ?_
  refine rg_list ?_
  have h6_7 := u7.w (u6.w (u5.w h6_4))
  refine wl_p (ex_mv h6_7) F7.l fun a8 u8 h74_8 => ?_
  have F8 := F7.pt u8
  change Code.wp _ _ _ _ _
  refine wp_block ?_
  refine wp_seq ?_
  refine wp_seq ?_
  refine rg_list ?_
  refine wl_p (ex_bin (vy := (.int .u8 101)) (v := (.bool false)) h74_8 rfl (by kernel_rfl)) F8.l fun a9 u9 h76_9 => ?_
  have F9 := F8.pt u9
  refine wl_p (ex_as h76_9) F9.l fun a10 u10 h75_10 => ?_
  have F10 := F9.pt u10
  change Code.wp _ _ _ _ _
  refine wp_cond_false h75_10 ?_
  refine rg_list ?_
  refine wl_p (ex_bin (vy := (.int .u8 69)) (v := (.bool false)) (u10.w (u9.w h74_8)) rfl (by kernel_rfl)) F10.l fun a11 u11 h77_11 => ?_
  have F11 := F10.pt u11
  refine wl_p (ex_as h77_11) F11.l fun a12 u12 h75_12 => ?_
  have F12 := F11.pt u12
  change Code.wp _ _ _ _ _
  refine wp_cond_false h75_12 ?_
  refine wp_seq ?_
  refine rg_list ?_
  have h74_12 := u12.w (u11.w (u10.w (u9.w h74_8)))
  refine wl_p (ex_bin (vy := (.int .u8 102)) (v := (.bool true)) h74_12 rfl (by kernel_rfl)) F12.l fun a13 u13 h177_13 => ?_
  have F13 := F12.pt u13
  refine wl_p (ex_as h177_13) F13.l fun a14 u14 h176_14 => ?_
  have F14 := F13.pt u14
  change Code.wp _ _ _ _ _
  refine wp_cond_true h176_14 ?_
  refine wp_seq ?_
  refine wp_seq ?_
  refine rg_list ?_
  have h1_14 := u14.w (u13.w (u12.w (u11.w (u10.w (u9.w (u8.w (u7.w (u6.w (u5.w (u4.w (u3.w (u2.w (u1.w h1_0)))))))))))))
  refine wl_p (ex_mv h1_14) F14.l fun a15 u15 h178_15 => ?_
  have F15 := F14.pt u15
  change Code.wp _ _ _ _ _
  refine wp_cond_false h178_15 ?_
  refine wp_skip ?_
  change Code.wp _ _ _ _ _
  refine wp_seq ?_
  have h0_15 := u15.w (u14.w (u13.w (u12.w (u11.w (u10.w (u9.w (u8.w (u7.w (u6.w (u5.w (u4.w (u3.w (u2.w (u1.w h0_0))))))))))))))
  have h2_15 := u15.w (u14.w (u13.w (u12.w (u11.w (u10.w (u9.w (u8.w (u7.w (u6.w (u5.w (u4.w (u3.w (u2.w (u1.w h2_0))))))))))))))
  have h3_15 := u15.w (u14.w (u13.w (u12.w (u11.w (u10.w (u9.w (u8.w (u7.w (u6.w (u5.w (u4.w (u3.w (u2.w (u1.w h3_0))))))))))))))
  have h4_15 := u15.w (u14.w (u13.w (u12.w (u11.w (u10.w (u9.w (u8.w (u7.w (u6.w (u5.w (u4.w (u3.w (u2.w (u1.w h4_0))))))))))))))
  have h5_15 := u15.w (u14.w (u13.w (u12.w (u11.w (u10.w (u9.w (u8.w (u7.w (u6.w (u5.w (u4.w (u3.w (u2.w (u1.w h5_0))))))))))))))
  have h23_15 := u15.w (u14.w (u13.w (u12.w (u11.w (u10.w (u9.w (u8.w (u7.w (u6.w (u5.w (u4.w (u3.w (u2.w (u1.w h23_0))))))))))))))
  have h27_15 := u15.w (u14.w (u13.w (u12.w (u11.w (u10.w (u9.w (u8.w (u7.w (u6.w (u5.w (u4.w (u3.w (u2.w (u1.w h27_0))))))))))))))
  have h28_15 := u15.w (u14.w (u13.w (u12.w (u11.w (u10.w (u9.w (u8.w (u7.w (u6.w (u5.w (u4.w (u3.w (u2.w (u1.w h28_0))))))))))))))
  have h29_15 := u15.w (u14.w (u13.w (u12.w (u11.w (u10.w (u9.w (u8.w (u7.w (u6.w (u5.w (u4.w (u3.w (u2.w (u1.w h29_0))))))))))))))
  refine efg_A hds hdl hdp30 (by omega) ⟨F15, ⟨_, h0_15, R_0⟩, h2_15, h3_15, h4_15, h5_15, h23_15, h27_15, h28_15, h29_15, D_0, Bl_0, Hb_0⟩ fun a16 w1 x23 hJ => ?_
  change Code.wp _ _ _ _ _
  refine wp_seq ?_
  refine efg_B hdl hdp30 hpr30 (by rw [List.length_append]; have := efg_len hdl hdp30; omega) hJ fun a17 w2 x27 x28 x29 hJ => ?_
  obtain ⟨F17, ⟨v2, h0_17, R_2⟩, h2_17, h3_17, h4_17, h5_17, h23_17, h27_17, h28_17, h29_17, D_2, Bl_2, Hb_2⟩ := hJ
  change Code.wp _ _ _ _ _
  refine wp_seq ?_
  refine rg_list ?_
  refine wl_p (ex_mv h0_17) F17.l fun a18 u18 h267_18 => ?_
  have F18 := F17.pt u18
  refine wl_p (ex_as h267_18) F18.l fun a19 u19 h16_19 => ?_
  have F19 := F18.pt u19
  change Code.wp _ _ _ _ _
  refine wp_ret ?_
  try simp only [Exit.then, Exit.inBlock]
  refine bodyPost_ret (v := v2) ((results_tmp rfl _ _ _).trans (by rw [h16_19])) F19.defers ⟨_, rfl, ?_, Bl_2, D_2⟩
  unfold efgT; rw [← List.append_assoc]; exact R_2
end Go.Proofs.YtlphcidpaidclaaGreatDoor
