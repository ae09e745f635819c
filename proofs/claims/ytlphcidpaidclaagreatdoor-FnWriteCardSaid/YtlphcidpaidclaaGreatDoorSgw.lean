/-
  The specification's Write.
-/
import Derived.Test.YtlphcidpaidclaaGreatDoorSgl
namespace Go.Proofs.YtlphcidpaidclaaGreatDoor
open Go.RowKit
set_option maxRecDepth 100000
noncomputable def swB : Code := Tryz.f10.body.getD .skip
structure JW (w0 : World) (m : MedD) (kp mp : Option Nat) (sv : Value) (g3 : Nat) (L : List UInt8) (a : Act) (w : World) : Prop where
  fz : Fz 77 a
  t1 : a.tmps.getD 1 undef = .bool false
  t3 : a.tmps.getD 3 undef = .pointer (some ⟨g3, 0, none⟩)
  t7 : a.tmps.getD 7 undef = .string (bs L)
  b : Blk w g3 44 (medC m kp mp sv)
  kp : Kp [] w0 w
  hb : w0.heap.size ≤ g3
section
variable {w00 w0 w : World} {m : MedD} {kp mp : Option Nat} {sv v : Value} {g3 j base : Nat} {a0 : Act} {L : List UInt8} {ls : List (List UInt8)} {segs : List SegD} {Q : Exit → Act → World → Prop}

/-- what stands while a segment's lines are written -/
def EW (g12 : Nat) (sv : Value) (N i : Nat) (a : Act) : Prop := a.tmps.getD 12 undef = .pointer (some ⟨g12, 0, none⟩) ∧ a.tmps.getD 39 undef = sv ∧ a.tmps.getD 40 undef = .int .i64 N ∧ a.tmps.getD 41 undef = .int .i64 i
theorem hl_round (hR : TRow w0 base v ls) (hln : ls.length ≤ 30) (hfl : ls.flatten.length ≤ 1000) (hLL : L.length ≤ 100000) (hj : j < ls.length) (hJ : JW w00 m kp mp sv g3 L a0 w0) (h28_0 : a0.tmps.getD 28 undef = v) (h29_0 : a0.tmps.getD 29 undef = .int .i64 ls.length) (h30_0 : a0.tmps.getD 30 undef = .int .i64 j)
    (hK : ∀ a' w', (JW w00 m kp mp sv g3 (L ++ ls[j]) a' w' ∧ a'.tmps.getD 28 undef = v ∧ a'.tmps.getD 29 undef = .int .i64 ls.length ∧ a'.tmps.getD 30 undef = .int .i64 (j + 1 : Nat) ∧ w' = w0) → Q .normal a' w') : (cat [1, 1, 1, 1, 0, 1, 0, 0] swB).wp Tryz.prog Q a0 w0 := by
  change Code.wp _ (Code.seq _ _) _ _ _
  obtain ⟨F0, h1_0, h3_0, h7_0, B3_0, Kp0, hg3⟩ := hJ
  obtain ⟨ad, hix, hcell⟩ := hR.elem hj
  have hlj : ls[j].length ≤ 1000 := by
    have h1 := flat_take ls j hj
    have h2 := flat_len ls (j + 1)
    rw [h1, List.length_append] at h2; omega
  refine wp_seq ?_
  refine rg_list ?_
  refine wl_p (ex_bin (v := (.bool true)) h30_0 h29_0 (bo_lss_yes _ _ hj _)) F0.l fun a1 u1 h31_1 => ?_
  have F1 := F0.pt u1
  change Code.wp _ _ _ _ _
  refine wp_seq ?_
  refine wp_cond_true h31_1 ?_
  refine wp_skip ?_
  change Code.wp _ _ _ _ _
  refine wp_seq ?_
  refine wp_block ?_
  refine wp_seq ?_
  refine rg_list ?_
  refine wl_p (ex_ixg (v := .pointer (some ad)) (u1.w h28_0) (u1.w h30_0) (hix _)) F1.l fun a2 u2 h32_2 => ?_
  have F2 := F1.pt u2
  refine wl_p (ex_le (v := .string (bs ls[j])) h32_2 hcell) F2.l fun a3 u3 h33_3 => ?_
  have F3 := F2.pt u3
  refine wl_p (ex_as h33_3) F3.l fun a4 u4 h10_4 => ?_
  have F4 := F3.pt u4
  change Code.wp _ _ _ _ _
  refine rg_list ?_
  have h7_4 := u4.w (u3.w (u2.w (u1.w h7_0)))
  refine wl_p (ex_mv h7_4) F4.l fun a5 u5 h34_5 => ?_
  have F5 := F4.pt u5
  refine wl_p (ex_mv (u5.w h10_4)) F5.l fun a6 u6 h35_6 => ?_
  have F6 := F5.pt u6
  refine wl_p (ex_bin (v := (.string (bs (L ++ ls[j])))) (u6.w h34_5) h35_6 (bo_adds L ls[j] _ (by first | (simp only [List.length_append, List.length_cons, List.length_nil]; omega) | omega))) F6.l fun a7 u7 h36_7 => ?_
  have F7 := F6.pt u7
  refine wl_p (ex_as h36_7) F7.l fun a8 u8 h7_8 => ?_
  have F8 := F7.pt u8
  change Code.wp _ _ _ _ _
  refine rg_list ?_
  have h30_8 := u8.w (u7.w (u6.w (u5.w (u4.w (u3.w (u2.w (u1.w h30_0)))))))
  refine wl_p (ex_bin (vy := (.int .i64 1)) (v := (.int .i64 (j + 1 : Nat))) h30_8 rfl (bo_addi3 j 1 _ (by omega))) F8.l fun a9 u9 h37_9 => ?_
  have F9 := F8.pt u9
  refine wl_p (ex_mv h37_9) F9.l fun a10 u10 h30_10 => ?_
  have F10 := F9.pt u10
  have h1_10 := u10.w (u9.w (u8.w (u7.w (u6.w (u5.w (u4.w (u3.w (u2.w (u1.w h1_0)))))))))
  have h3_10 := u10.w (u9.w (u8.w (u7.w (u6.w (u5.w (u4.w (u3.w (u2.w (u1.w h3_0)))))))))
  have h28_10 := u10.w (u9.w (u8.w (u7.w (u6.w (u5.w (u4.w (u3.w (u2.w (u1.w h28_0)))))))))
  have h29_10 := u10.w (u9.w (u8.w (u7.w (u6.w (u5.w (u4.w (u3.w (u2.w (u1.w h29_0)))))))))
  exact hK _ _ ⟨⟨F10, h1_10, h3_10, (u10.w (u9.w h7_8)), B3_0, Kp0, hg3⟩, h28_10, h29_10, h30_10, rfl⟩
theorem hl_exit {M : Nat} (hJ : JW w00 m kp mp sv g3 L a0 w0) (h29_0 : a0.tmps.getD 29 undef = .int .i64 M) (h30_0 : a0.tmps.getD 30 undef = .int .i64 M) (hK : ∀ a', JW w00 m kp mp sv g3 L a' w0 → Q .normal a' w0) : (cat [1, 1, 1, 1, 0, 1, 0, 0] swB).wp Tryz.prog (Exit.then (fun _ _ => False) (Exit.inBlock 0 Q)) a0 w0 := by
  change Code.wp _ (Code.seq _ _) _ _ _
  obtain ⟨F0, h1_0, h3_0, h7_0, B3_0, Kp0, hg3⟩ := hJ
  refine wp_seq ?_
  refine rg_list ?_
  refine wl_p (ex_bin (v := (.bool false)) h30_0 h29_0 (bo_lss_no _ _)) F0.l fun a1 u1 h31_1 => ?_
  have F1 := F0.pt u1
  change Code.wp _ _ _ _ _
  refine wp_seq ?_
  refine wp_cond_false h31_1 ?_
  refine wp_exit ?_
  try simp only [Exit.then]
  refine inBlock_exit ?_
  exact hK _ ⟨F1, (u1.w h1_0), (u1.w h3_0), (u1.w h7_0), B3_0, Kp0, hg3⟩
theorem hl_loop (hR : TRow w0 base v ls) (hln : ls.length ≤ 30) (hfl : ls.flatten.length ≤ 1000) (hLL : L.length ≤ 90000) (hJ : JW w00 m kp mp sv g3 L a0 w0) (h1 : a0.tmps.getD 28 undef = v) (h2 : a0.tmps.getD 29 undef = .int .i64 ls.length) (h3 : a0.tmps.getD 30 undef = .int .i64 0) (hK : ∀ a', JW w00 m kp mp sv g3 (L ++ ls.flatten) a' w0 → Q .normal a' w0) : (cat [1, 1, 1, 1, 0, 1] swB).wp Tryz.prog Q a0 w0 := by
  change Code.wp _ (Code.block _ (Code.loop _)) _ _ _
  refine loop_n (si := 30) (m := ls.length) (fun j a w => w = w0 ∧ JW w00 m kp mp sv g3 (L ++ (ls.take j).flatten) a w ∧ a.tmps.getD 28 undef = v ∧ a.tmps.getD 29 undef = .int .i64 ls.length ∧ a.tmps.getD 30 undef = .int .i64 j) ⟨rfl, by simpa using hJ, h1, h2, h3⟩ (fun _ _ _ h => h.2.2.2.2) ?_ ?_
  · rintro j a w hj ⟨rfl, hJ, h1, h2, h3⟩ R hK
    have hl := flat_len ls j
    refine hl_round hR hln hfl (by rw [List.length_append]; omega) hj hJ h1 h2 h3 fun a' w' h => hK _ _ ?_
    obtain ⟨h4, h5, h6, h7, h8⟩ := h
    refine ⟨h8, ?_, h5, h6, h7⟩
    rw [flat_take ls j hj, ← List.append_assoc]; exact h4
  · rintro a w ⟨rfl, hJ, h1, h2, h3⟩
    rw [List.take_length] at hJ
    exact hl_exit hJ h2 h3 hK
theorem sl_round {g12 N i : Nat} (hR : TRow w0 base v ls) (hln : ls.length ≤ 30) (hfl : ls.flatten.length ≤ 1000) (hLL : L.length ≤ 100000) (hj : j < ls.length) (hJ : JW w00 m kp mp sv g3 L a0 w0) (h56_0 : a0.tmps.getD 56 undef = v) (h57_0 : a0.tmps.getD 57 undef = .int .i64 ls.length) (h58_0 : a0.tmps.getD 58 undef = .int .i64 j) (hE : EW g12 sv N i a0)
    (hK : ∀ a' w', (JW w00 m kp mp sv g3 (L ++ ls[j]) a' w' ∧ a'.tmps.getD 56 undef = v ∧ a'.tmps.getD 57 undef = .int .i64 ls.length ∧ a'.tmps.getD 58 undef = .int .i64 (j + 1 : Nat) ∧ EW g12 sv N i a' ∧ w' = w0) → Q .normal a' w') : (cat [1, 1, 1, 1, 1, 0, 1, 0, 0, 1, 1, 0, 0, 1, 1, 1, 0, 1, 0, 0] swB).wp Tryz.prog Q a0 w0 := by
  change Code.wp _ (Code.seq _ _) _ _ _
  obtain ⟨F0, h1_0, h3_0, h7_0, B3_0, Kp0, hg3⟩ := hJ
  obtain ⟨e12, e39, e40, e41⟩ := hE
  obtain ⟨ad, hix, hcell⟩ := hR.elem hj
  have hlj : ls[j].length ≤ 1000 := by
    have h1 := flat_take ls j hj
    have h2 := flat_len ls (j + 1)
    rw [h1, List.length_append] at h2; omega
  refine wp_seq ?_
  refine rg_list ?_
  refine wl_p (ex_bin (v := (.bool true)) h58_0 h57_0 (bo_lss_yes _ _ hj _)) F0.l fun a1 u1 h59_1 => ?_
  have F1 := F0.pt u1
  have h12_1 := u1.v 12 e12 (by decide)
  have h39_1 := u1.v 39 e39 (by decide)
  have h40_1 := u1.v 40 e40 (by decide)
  have h41_1 := u1.v 41 e41 (by decide)
  clear e12 e39 e40 e41
  change Code.wp _ _ _ _ _
  refine wp_seq ?_
  refine wp_cond_true h59_1 ?_
  refine wp_skip ?_
  change Code.wp _ _ _ _ _
  refine wp_seq ?_
  refine wp_block ?_
  refine wp_seq ?_
  refine rg_list ?_
  refine wl_p (ex_ixg (v := .pointer (some ad)) (u1.w h56_0) (u1.w h58_0) (hix _)) F1.l fun a2 u2 h60_2 => ?_
  have F2 := F1.pt u2
  refine wl_p (ex_le (v := .string (bs ls[j])) h60_2 hcell) F2.l fun a3 u3 h61_3 => ?_
  have F3 := F2.pt u3
  refine wl_p (ex_as h61_3) F3.l fun a4 u4 h15_4 => ?_
  have F4 := F3.pt u4
  change Code.wp _ _ _ _ _
  refine rg_list ?_
  have h7_4 := u4.w (u3.w (u2.w (u1.w h7_0)))
  refine wl_p (ex_mv h7_4) F4.l fun a5 u5 h62_5 => ?_
  have F5 := F4.pt u5
  refine wl_p (ex_mv (u5.w h15_4)) F5.l fun a6 u6 h63_6 => ?_
  have F6 := F5.pt u6
  refine wl_p (ex_bin (v := (.string (bs (L ++ ls[j])))) (u6.w h62_5) h63_6 (bo_adds L ls[j] _ (by first | (simp only [List.length_append, List.length_cons, List.length_nil]; omega) | omega))) F6.l fun a7 u7 h64_7 => ?_
  have F7 := F6.pt u7
  refine wl_p (ex_as h64_7) F7.l fun a8 u8 h7_8 => ?_
  have F8 := F7.pt u8
  change Code.wp _ _ _ _ _
  refine rg_list ?_
  have h58_8 := u8.w (u7.w (u6.w (u5.w (u4.w (u3.w (u2.w (u1.w h58_0)))))))
  refine wl_p (ex_bin (vy := (.int .i64 1)) (v := (.int .i64 (j + 1 : Nat))) h58_8 rfl (bo_addi3 j 1 _ (by omega))) F8.l fun a9 u9 h65_9 => ?_
  have F9 := F8.pt u9
  refine wl_p (ex_mv h65_9) F9.l fun a10 u10 h58_10 => ?_
  have F10 := F9.pt u10
  have h1_10 := u10.w (u9.w (u8.w (u7.w (u6.w (u5.w (u4.w (u3.w (u2.w (u1.w h1_0)))))))))
  have h3_10 := u10.w (u9.w (u8.w (u7.w (u6.w (u5.w (u4.w (u3.w (u2.w (u1.w h3_0)))))))))
  have h56_10 := u10.w (u9.w (u8.w (u7.w (u6.w (u5.w (u4.w (u3.w (u2.w (u1.w h56_0)))))))))
  have h57_10 := u10.w (u9.w (u8.w (u7.w (u6.w (u5.w (u4.w (u3.w (u2.w (u1.w h57_0)))))))))
  have h12_10 := u10.w (u9.w (u8.w (u7.w (u6.w (u5.w (u4.w (u3.w (u2.w h12_1))))))))
  have h39_10 := u10.w (u9.w (u8.w (u7.w (u6.w (u5.w (u4.w (u3.w (u2.w h39_1))))))))
  have h40_10 := u10.w (u9.w (u8.w (u7.w (u6.w (u5.w (u4.w (u3.w (u2.w h40_1))))))))
  have h41_10 := u10.w (u9.w (u8.w (u7.w (u6.w (u5.w (u4.w (u3.w (u2.w h41_1))))))))
  exact hK _ _ ⟨⟨F10, h1_10, h3_10, (u10.w (u9.w h7_8)), B3_0, Kp0, hg3⟩, h56_10, h57_10, h58_10, ⟨h12_10, h39_10, h40_10, h41_10⟩, rfl⟩
theorem sl_exit {g12 N i : Nat} {M : Nat} (hJ : JW w00 m kp mp sv g3 L a0 w0) (h57_0 : a0.tmps.getD 57 undef = .int .i64 M) (h58_0 : a0.tmps.getD 58 undef = .int .i64 M) (hE : EW g12 sv N i a0) (hK : ∀ a', JW w00 m kp mp sv g3 L a' w0 → EW g12 sv N i a' → Q .normal a' w0) : (cat [1, 1, 1, 1, 1, 0, 1, 0, 0, 1, 1, 0, 0, 1, 1, 1, 0, 1, 0, 0] swB).wp Tryz.prog (Exit.then (fun _ _ => False) (Exit.inBlock 4 Q)) a0 w0 := by
  change Code.wp _ (Code.seq _ _) _ _ _
  obtain ⟨F0, h1_0, h3_0, h7_0, B3_0, Kp0, hg3⟩ := hJ
  obtain ⟨e12, e39, e40, e41⟩ := hE
  refine wp_seq ?_
  refine rg_list ?_
  refine wl_p (ex_bin (v := (.bool false)) h58_0 h57_0 (bo_lss_no _ _)) F0.l fun a1 u1 h59_1 => ?_
  have F1 := F0.pt u1
  have h12_1 := u1.v 12 e12 (by decide)
  have h39_1 := u1.v 39 e39 (by decide)
  have h40_1 := u1.v 40 e40 (by decide)
  have h41_1 := u1.v 41 e41 (by decide)
  clear e12 e39 e40 e41
  change Code.wp _ _ _ _ _
  refine wp_seq ?_
  refine wp_cond_false h59_1 ?_
  refine wp_exit ?_
  try simp only [Exit.then]
  refine inBlock_exit ?_
  exact hK _ ⟨F1, (u1.w h1_0), (u1.w h3_0), (u1.w h7_0), B3_0, Kp0, hg3⟩ ⟨h12_1, h39_1, h40_1, h41_1⟩
theorem sl_loop {g12 N i : Nat} (hR : TRow w0 base v ls) (hln : ls.length ≤ 30) (hfl : ls.flatten.length ≤ 1000) (hLL : L.length ≤ 90000) (hJ : JW w00 m kp mp sv g3 L a0 w0) (h1 : a0.tmps.getD 56 undef = v) (h2 : a0.tmps.getD 57 undef = .int .i64 ls.length) (h3 : a0.tmps.getD 58 undef = .int .i64 0) (hE : EW g12 sv N i a0) (hK : ∀ a', JW w00 m kp mp sv g3 (L ++ ls.flatten) a' w0 → EW g12 sv N i a' → Q .normal a' w0) : (cat [1, 1, 1, 1, 1, 0, 1, 0, 0, 1, 1, 0, 0, 1, 1, 1, 0, 1] swB).wp Tryz.prog Q a0 w0 := by
  change Code.wp _ (Code.block _ (Code.loop _)) _ _ _
  refine loop_n (si := 58) (m := ls.length) (fun j a w => w = w0 ∧ JW w00 m kp mp sv g3 (L ++ (ls.take j).flatten) a w ∧ a.tmps.getD 56 undef = v ∧ a.tmps.getD 57 undef = .int .i64 ls.length ∧ a.tmps.getD 58 undef = .int .i64 j ∧ EW g12 sv N i a) ⟨rfl, by simpa using hJ, h1, h2, h3, hE⟩ (fun _ _ _ h => h.2.2.2.2.1) ?_ ?_
  · rintro j a w hj ⟨rfl, hJ, h1, h2, h3, hE⟩ R hK
    have hl := flat_len ls j
    refine sl_round hR hln hfl (by rw [List.length_append]; omega) hj hJ h1 h2 h3 hE fun a' w' h => hK _ _ ?_
    obtain ⟨h4, h5, h6, h7, hE', h8⟩ := h
    refine ⟨h8, ?_, h5, h6, h7, hE'⟩
    rw [flat_take ls j hj, ← List.append_assoc]; exact h4
  · rintro a w ⟨rfl, hJ, h1, h2, h3, hE⟩
    rw [List.take_length] at hJ
    exact sl_exit hJ h2 h3 hE hK
theorem sw_round (hS : SRow w00 base sv segs) (hok : ∀ s ∈ segs, SegOk s) (hLL : L.length ≤ 80000) (hj : j < segs.length) (hn12 : segs.length ≤ 12) (hJ : JW w00 m kp mp sv g3 L a0 w0) (h39_0 : a0.tmps.getD 39 undef = sv) (h40_0 : a0.tmps.getD 40 undef = .int .i64 segs.length) (h41_0 : a0.tmps.getD 41 undef = .int .i64 j)
    (hK : ∀ a' w', (JW w00 m kp mp sv g3 (L ++ segX segs[j]) a' w' ∧ a'.tmps.getD 39 undef = sv ∧ a'.tmps.getD 40 undef = .int .i64 segs.length ∧ a'.tmps.getD 41 undef = .int .i64 (j + 1 : Nat)) → Q .normal a' w') : (cat [1, 1, 1, 1, 1, 0, 1, 0, 0] swB).wp Tryz.prog Q a0 w0 := by
  change Code.wp _ (Code.seq _ _) _ _ _
  obtain ⟨F0, h1_0, h3_0, h7_0, B3_0, Kp0, hg3⟩ := hJ
  obtain ⟨ad, kp2, mp2, hix, hld, hk2, hm2⟩ := hS.elem hj
  obtain ⟨s, hs⟩ : ∃ s, segs[j] = s := ⟨_, rfl⟩
  have ok2 : SegOk s := by rw [← hs]; exact hok _ (List.getElem_mem hj)
  rw [hs] at hld hk2 hm2
  have hln := linesX_len ok2
  have hui : s.uri.data.toList.length ≤ 40 := ok2.1.uri
  refine wp_seq ?_
  refine rg_list ?_
  refine wl_p (ex_bin (v := (.bool true)) h41_0 h40_0 (bo_lss_yes _ _ hj _)) F0.l fun a1 u1 h42_1 => ?_
  have F1 := F0.pt u1
  change Code.wp _ _ _ _ _
  refine wp_seq ?_
  refine wp_cond_true h42_1 ?_
  refine wp_skip ?_
  change Code.wp _ _ _ _ _
  refine wp_seq ?_
  refine wp_block ?_
  refine wp_seq ?_
  refine rg_list ?_
  refine wl_p (ex_mv (u1.w h41_0)) F1.l fun a2 u2 h43_2 => ?_
  have F2 := F1.pt u2
  refine wl_p (ex_ixg (v := .pointer (some ad)) (u2.w (u1.w h39_0)) (u2.w (u1.w h41_0)) (hix _)) F2.l fun a3 u3 h44_3 => ?_
  have F3 := F2.pt u3
  refine wl_p (ex_lda h44_3 (hld _ Kp0)) F3.l fun a4 u4 (h45_4 : a4.tmps.getD 45 undef = (.agg #[(.string s.title), (.string s.uri), (.int .i64 s.e), (.int .i64 s.li), (.int .i64 s.off), (pto kp2), (pto mp2), (.bool s.disc), (.string s.date)])) => ?_
  have F4 := F3.pt u4
  obtain ⟨g12, hg12⟩ : ∃ g, w0.heap.size = g := ⟨_, rfl⟩
  have ne_3_12 : g3 ≠ g12 := by have := B3_0.lt; omega
  have ge_12 : w00.heap.size ≤ g12 := by have := Kp0.size; omega
  obtain ⟨w1, hr1, B12_1, G1, hs1⟩ := al_run (op := Instr.alloc 53 true (.tuple #[])) (T := 53) (cs := #[(.string ⟨#[]⟩), (.string ⟨#[]⟩), (.int .i64 0), (.int .i64 0), (.int .i64 0), (.pointer none), (.pointer none), (.bool false), (.string ⟨#[]⟩)]) hg12 (fun _ => by kernel_rfl)
  have B3_1 := B3_0.gn G1
  have Kp1 := Kp0.new G1
  refine wl_p (ex_al hr1) F4.l fun a5 u5 (h12_5 : a5.tmps.getD 12 undef = (.pointer (some ⟨g12, 0, none⟩))) => ?_
  have F5 := F4.pt u5
  have h43_5 := u5.w (u4.w (u3.w h43_2))
  refine wl_p (ex_as h43_5) F5.l fun a6 u6 h11_6 => ?_
  have F6 := F5.pt u6
  obtain ⟨w2, hr2, B12_2, G2⟩ := sta_run (T := 53) (cs := #[(.string s.title), (.string s.uri), (.int .i64 s.e), (.int .i64 s.li), (.int .i64 s.off), (pto kp2), (pto mp2), (.bool s.disc), (.string s.date)]) (fun _ => by kernel_rfl) B12_1 rfl rfl (by exact one_ssegC _ _ _)
  have B3_2 := B3_1.gk G2 ne_3_12
  have Kp2 := Kp1.set G2 (Or.inr ge_12)
  refine wl_n (ex_st (u6.w h12_5) (u6.w (u5.w h45_4)) hr2) ?_
  change Code.wp _ _ _ _ _
  refine wp_seq ?_
  refine rg_list ?_
  refine wl_p (ex_lda (u6.w h12_5) (ld_agg (n := 9) (xs := #[(.string s.title), (.string s.uri), (.int .i64 s.e), (.int .i64 s.li), (.int .i64 s.off), (pto kp2), (pto mp2), (.bool s.disc), (.string s.date)]) (fun _ => by kernel_rfl) (fun _ => by kernel_rfl) B12_2 rfl (fun _ _ => by rw [Nat.zero_add] <;> rfl))) F6.l fun a7 u7 (h46_7 : a7.tmps.getD 46 undef = (.agg #[(.string s.title), (.string s.uri), (.int .i64 s.e), (.int .i64 s.li), (.int .i64 s.off), (pto kp2), (pto mp2), (.bool s.disc), (.string s.date)])) => ?_
  have F7 := F6.pt u7
  refine wl_cl (args := #[(.agg #[(.string s.title), (.string s.uri), (.int .i64 s.e), (.int .i64 s.li), (.int .i64 s.off), (pto kp2), (pto mp2), (.bool s.disc), (.string s.date)])]) (R := fun v w' => ∃ ls, TRow w' w2.heap.size v ls ∧ ls.flatten = linesX s ∧ ls.length ≤ 30 ∧ w2.grownBy w' none) (ex_cl (fun _ _ => by kernel_rfl) (arg1 h46_7)) ((lines_any ok2 (hk2.gn Kp2.grown) (hm2.gn Kp2.grown)).mono fun _ _ ⟨v, ls, h1, h2, h3, h4, h5⟩ => ⟨v, h1, ls, h2, h3, h4, h5⟩) F7.l ?_
  rintro lv w3 ⟨ls, R_3, hls, hll, G3⟩
  have B3_3 := B3_2.gn G3
  have B12_3 := B12_2.gn G3
  have Kp3 := Kp2.new G3
  intro a8 u8 h47_8
  have F8 := F7.pt u8
  refine wl_p (ex_as h47_8) F8.l fun a9 u9 h13_9 => ?_
  have F9 := F8.pt u9
  change Code.wp _ _ _ _ _
  refine wp_seq ?_
  refine wp_seq ?_
  refine rg_list ?_
  have h1_9 := u9.w (u8.w (u7.w (u6.w (u5.w (u4.w (u3.w (u2.w (u1.w h1_0))))))))
  refine wl_p (ex_mv h1_9) F9.l fun a10 u10 h48_10 => ?_
  have F10 := F9.pt u10
  change Code.wp _ _ _ _ _
  refine wp_cond_false h48_10 ?_
  refine wp_skip ?_
  change Code.wp _ _ _ _ _
  refine wp_seq ?_
  refine wp_seq ?_
  refine rg_list ?_
  refine wl_p (ex_mv (u10.w h13_9)) F10.l fun a11 u11 h56_11 => ?_
  have F11 := F10.pt u11
  refine wl_p (ex_bi (w' := w3) (args := #[lv]) (v := (.int .i64 ls.length)) (arg1 h56_11) (R_3.len _)) F11.l fun a12 u12 h57_12 => ?_
  have F12 := F11.pt u12
  refine wl_p (ex_mv (v := (.int .i64 0)) rfl) F12.l fun a13 u13 h58_13 => ?_
  have F13 := F12.pt u13
  change Code.wp _ _ _ _ _
  have h1_13 := u13.w (u12.w (u11.w (u10.w h1_9)))
  have h3_13 := u13.w (u12.w (u11.w (u10.w (u9.w (u8.w (u7.w (u6.w (u5.w (u4.w (u3.w (u2.w (u1.w h3_0))))))))))))
  have h7_13 := u13.w (u12.w (u11.w (u10.w (u9.w (u8.w (u7.w (u6.w (u5.w (u4.w (u3.w (u2.w (u1.w h7_0))))))))))))
  have h12_13 := u13.w (u12.w (u11.w (u10.w (u9.w (u8.w (u7.w (u6.w h12_5)))))))
  have h39_13 := u13.w (u12.w (u11.w (u10.w (u9.w (u8.w (u7.w (u6.w (u5.w (u4.w (u3.w (u2.w (u1.w h39_0))))))))))))
  have h40_13 := u13.w (u12.w (u11.w (u10.w (u9.w (u8.w (u7.w (u6.w (u5.w (u4.w (u3.w (u2.w (u1.w h40_0))))))))))))
  have h41_13 := u13.w (u12.w (u11.w (u10.w (u9.w (u8.w (u7.w (u6.w (u5.w (u4.w (u3.w (u2.w (u1.w h41_0))))))))))))
  refine sl_loop (N := segs.length) (i := j) (g12 := g12) R_3 hll (by rw [hls]; omega) (by omega) ⟨F13, h1_13, h3_13, h7_13, B3_3, Kp3, hg3⟩ (u13.w (u12.w h56_11)) (u13.w h57_12) h58_13 ⟨h12_13, h39_13, h40_13, h41_13⟩ fun a hJ hE => ?_
  obtain ⟨F0, h1_0, h3_0, h7_0, B3_0, Kp0, _⟩ := hJ
  obtain ⟨h12_0, h39_0, h40_0, h41_0⟩ := hE
  rw [hls] at h7_0
  have Kp3 := Kp0
  have B3_3 := B3_0
  change Code.wp _ _ _ _ _
  refine rg_list ?_
  refine wl_p (ex_mv h7_0) F0.l fun a1 u1 h66_1 => ?_
  have F1 := F0.pt u1
  refine wl_p (ex_fb 1 (u1.w h12_0)) F1.l fun a2 u2 h67_2 => ?_
  have F2 := F1.pt u2
  refine wl_p (ex_le (v := (.string s.uri)) h67_2 (B12_3.cell 1)) F2.l fun a3 u3 h68_3 => ?_
  have F3 := F2.pt u3
  refine wl_p (ex_bin (vy := (.string { data := #[10] })) (v := (.string (bs (s.uri.data.toList ++ ([10] : List UInt8))))) h68_3 rfl (bo_adds s.uri.data.toList ([10] : List UInt8) _ (by first | (simp only [List.length_append, List.length_cons, List.length_nil]; omega) | omega))) F3.l fun a4 u4 h69_4 => ?_
  have F4 := F3.pt u4
  have h66_4 := u4.w (u3.w (u2.w h66_1))
  refine wl_p (ex_bin (v := (.string (bs ((L ++ linesX s) ++ (s.uri.data.toList ++ ([10] : List UInt8)))))) h66_4 h69_4 (bo_adds (L ++ linesX s) (s.uri.data.toList ++ ([10] : List UInt8)) _ (by first | (simp only [List.length_append, List.length_cons, List.length_nil]; omega) | omega))) F4.l fun a5 u5 h70_5 => ?_
  have F5 := F4.pt u5
  refine wl_p (ex_as h70_5) F5.l fun a6 u6 h7_6 => ?_
  have F6 := F5.pt u6
  change Code.wp _ _ _ _ _
  refine rg_list ?_
  have h41_6 := u6.w (u5.w (u4.w (u3.w (u2.w (u1.w h41_0)))))
  refine wl_p (ex_bin (vy := (.int .i64 1)) (v := (.int .i64 (j + 1 : Nat))) h41_6 rfl (bo_addi3 j 1 _ (by omega))) F6.l fun a7 u7 h71_7 => ?_
  have F7 := F6.pt u7
  refine wl_p (ex_mv h71_7) F7.l fun a8 u8 h41_8 => ?_
  have F8 := F7.pt u8
  have h39_8 := u8.w (u7.w (u6.w (u5.w (u4.w (u3.w (u2.w (u1.w h39_0)))))))
  have h40_8 := u8.w (u7.w (u6.w (u5.w (u4.w (u3.w (u2.w (u1.w h40_0)))))))
  refine hK _ _ ⟨?_, h39_8, h40_8, h41_8⟩
  have h1_8 := u8.w (u7.w (u6.w (u5.w (u4.w (u3.w (u2.w (u1.w h1_0)))))))
  have h3_8 := u8.w (u7.w (u6.w (u5.w (u4.w (u3.w (u2.w (u1.w h3_0)))))))
  have h := (⟨F8, h1_8, h3_8, (u8.w (u7.w h7_6)), B3_3, Kp3, hg3⟩ : JW w00 m kp mp sv g3 ((L ++ linesX s) ++ (s.uri.data.toList ++ [10])) _ _)
  rw [hs]; unfold segX; simpa only [List.append_assoc] using h
theorem sw_exit {M : Nat} (hJ : JW w00 m kp mp sv g3 L a0 w0) (h40_0 : a0.tmps.getD 40 undef = .int .i64 M) (h41_0 : a0.tmps.getD 41 undef = .int .i64 M) (hK : ∀ a', JW w00 m kp mp sv g3 L a' w0 → Q .normal a' w0) : (cat [1, 1, 1, 1, 1, 0, 1, 0, 0] swB).wp Tryz.prog (Exit.then (fun _ _ => False) (Exit.inBlock 2 Q)) a0 w0 := by
  change Code.wp _ (Code.seq _ _) _ _ _
  obtain ⟨F0, h1_0, h3_0, h7_0, B3_0, Kp0, hg3⟩ := hJ
  refine wp_seq ?_
  refine rg_list ?_
  refine wl_p (ex_bin (v := (.bool false)) h41_0 h40_0 (bo_lss_no _ _)) F0.l fun a1 u1 h42_1 => ?_
  have F1 := F0.pt u1
  change Code.wp _ _ _ _ _
  refine wp_seq ?_
  refine wp_cond_false h42_1 ?_
  refine wp_exit ?_
  try simp only [Exit.then]
  refine inBlock_exit ?_
  exact hK _ ⟨F1, (u1.w h1_0), (u1.w h3_0), (u1.w h7_0), B3_0, Kp0, hg3⟩
theorem sw_segs (hS : SRow w00 base sv segs) (hok : ∀ s ∈ segs, SegOk s) (hLL : L.length ≤ 60000) (hn12 : segs.length ≤ 12) (hJ : JW w00 m kp mp sv g3 L a0 w0) (hK : ∀ a' w', JW w00 m kp mp sv g3 (L ++ segs.flatMap segX) a' w' → Q .normal a' w') : (cat [1, 1, 1, 1, 1, 0] swB).wp Tryz.prog Q a0 w0 := by
  obtain ⟨F0, h1_0, h3_0, h7_0, B3_0, Kp0, hg3⟩ := hJ
  change Code.wp _ (Code.seq (Code.region _ _ _) (Code.block _ _)) _ _ _
  refine wp_seq ?_
  refine rg_list ?_
  refine wl_p (ex_fb 11 h3_0) F0.l fun a1 u1 h38_1 => ?_
  have F1 := F0.pt u1
  refine wl_p (ex_le (v := sv) h38_1 (B3_0.cell 11)) F1.l fun a2 u2 h39_2 => ?_
  have F2 := F1.pt u2
  refine wl_p (ex_bi (w' := w0) (args := #[sv]) (v := (.int .i64 segs.length)) (arg1 h39_2) (hS.len _)) F2.l fun a3 u3 h40_3 => ?_
  have F3 := F2.pt u3
  refine wl_p (ex_mv (v := (.int .i64 0)) rfl) F3.l fun a4 u4 h41_4 => ?_
  have F4 := F3.pt u4
  change Code.wp _ (Code.block _ (Code.loop _)) _ _ _
  have h1_4 := u4.w (u3.w (u2.w (u1.w h1_0)))
  have h3_4 := u4.w (u3.w (u2.w (u1.w h3_0)))
  have h7_4 := u4.w (u3.w (u2.w (u1.w h7_0)))
  refine loop_n (si := 41) (m := segs.length) (fun j a w => JW w00 m kp mp sv g3 (L ++ (segs.take j).flatMap segX) a w ∧ a.tmps.getD 39 undef = sv ∧ a.tmps.getD 40 undef = .int .i64 segs.length ∧ a.tmps.getD 41 undef = .int .i64 j) ⟨by simpa using (⟨F4, h1_4, h3_4, h7_4, B3_0, Kp0, hg3⟩ : JW w00 m kp mp sv g3 L _ _), (u4.w (u3.w h39_2)), (u4.w h40_3), h41_4⟩ (fun _ _ _ h => h.2.2.2) ?_ ?_
  · rintro j a w hj ⟨hJ, h39, h40, h41⟩ R hK
    have hl := segs_len (segs.take j) fun x hx => hok x (List.mem_of_mem_take hx)
    rw [List.length_take] at hl
    refine sw_round hS hok (by rw [List.length_append]; omega) hj hn12 hJ h39 h40 h41 fun a' w' h => hK _ _ ?_
    obtain ⟨h4, h5, h6, h7⟩ := h
    refine ⟨?_, h5, h6, h7⟩
    rw [segs_take segs j hj, ← List.append_assoc]; exact h4
  · rintro a w ⟨hJ, h39, h40, h41⟩
    rw [List.take_length] at hJ
    exact sw_exit hJ h40 h41 fun a' hJ' => hK _ _ hJ'
theorem sw_end (hLL : L.length ≤ 90000) (hJ : JW w00 m kp mp sv g3 L a0 w0) : (cat [1, 1, 1, 1, 1, 1] swB).wp Tryz.prog (fun e a w => bodyPost Tryz.prog Tryz.f10 (fun e w' => e = .returned (.string (bs (L ++ (if m.clo = true then [35, 69, 88, 84, 45, 88, 45, 69, 78, 68, 76, 73, 83, 84, 10] else [])))) ∧ w00.grownBy w' none) e a w) a0 w0 := by
  obtain ⟨F0, h1_0, h3_0, h7_0, B3_0, Kp0, hg3⟩ := hJ
  change Code.wp _ (Code.seq (Code.seq _ _) _) _ _ _
  refine wp_seq ?_
  refine wp_seq ?_
  refine rg_list ?_
  refine wl_p (ex_fb 8 h3_0) F0.l fun a1 u1 h72_1 => ?_
  have F1 := F0.pt u1
  refine wl_p (ex_le (v := (.bool m.clo)) h72_1 (B3_0.cell 8)) F1.l fun a2 u2 h73_2 => ?_
  have F2 := F1.pt u2
  change Code.wp _ _ _ _ _
  rcases Bool.eq_false_or_eq_true m.clo with hq | hq
  · refine wp_cond_true (h73_2.trans (by rw [hq])) ?_
    refine rg_list ?_
    refine wl_p (ex_mv (u2.w (u1.w h7_0))) F2.l fun a3 u3 h74_3 => ?_
    have F3 := F2.pt u3
    refine wl_p (ex_bin (vy := (.string { data := #[35, 69, 88, 84, 45, 88, 45, 69, 78, 68, 76, 73, 83, 84, 10] })) (v := (.string (bs (L ++ ([35, 69, 88, 84, 45, 88, 45, 69, 78, 68, 76, 73, 83, 84, 10] : List UInt8))))) h74_3 rfl (bo_adds L ([35, 69, 88, 84, 45, 88, 45, 69, 78, 68, 76, 73, 83, 84, 10] : List UInt8) _ (by first | (simp only [List.length_append, List.length_cons, List.length_nil]; omega) | omega))) F3.l fun a4 u4 h75_4 => ?_
    have F4 := F3.pt u4
    refine wl_p (ex_as h75_4) F4.l fun a5 u5 h7_5 => ?_
    have F5 := F4.pt u5
    change Code.wp _ (Code.seq _ _) _ _ _
    refine wp_seq ?_
    refine rg_list ?_
    refine wl_p (ex_mv h7_5) F5.l fun a6 u6 h76_6 => ?_
    have F6 := F5.pt u6
    refine wl_p (ex_as h76_6) F6.l fun a7 u7 h6_7 => ?_
    have F7 := F6.pt u7
    refine wp_ret ?_
    try simp only [Exit.then, Exit.inBlock]
    exact bodyPost_ret (v := (.string (bs (L ++ ([35, 69, 88, 84, 45, 88, 45, 69, 78, 68, 76, 73, 83, 84, 10] : List UInt8))))) ((results_tmp rfl _ _ _).trans (by rw [h6_7])) F7.defers ⟨ret_str (congrArg bs (by simp [hq])), Kp0.grown⟩
  · refine wp_cond_false (h73_2.trans (by rw [hq])) ?_
    refine wp_skip ?_
    change Code.wp _ (Code.seq _ _) _ _ _
    refine wp_seq ?_
    refine rg_list ?_
    refine wl_p (ex_mv (u2.w (u1.w h7_0))) F2.l fun a3 u3 h76_3 => ?_
    have F3 := F2.pt u3
    refine wl_p (ex_as h76_3) F3.l fun a4 u4 h6_4 => ?_
    have F4 := F3.pt u4
    refine wp_ret ?_
    try simp only [Exit.then, Exit.inBlock]
    exact bodyPost_ret (v := (.string (bs L))) ((results_tmp rfl _ _ _).trans (by rw [h6_4])) F4.defers ⟨ret_str (congrArg bs (by simp [hq])), Kp0.grown⟩
end
theorem specWrite_any {m : MedD} {kp mp : Option Nat} {sv : Value} {segs : List SegD} {key : Option KeyD} {map : Option MapD} {base : Nat} {w0 : World} (okm : m.Ok) (hty : m.ty = 0 ∨ m.ty = 2) (hS : SRow w0 base sv segs) (hok : ∀ s ∈ segs, SegOk s) (hn12 : segs.length ≤ 12) (hk : SKey w0 kp key) (hm : SMap w0 mp map) : Calls Tryz.prog 10 #[.agg (medC m kp mp sv), .bool false, .int .u32 0] w0 fun e w' => e = .returned (.string (bs (specX m.ver m.ty m.seq m.td m.st m.dsq m.pre m.ifr m.clo key map segs))) ∧ w0.grownBy w' none := by
  refine calls_of_wp Tryz.func10 rfl ?_
  generalize hA : Act.mk _ _ = a0
  have F0 : Fz 77 a0 := by subst hA; exact ⟨by simp [Tryz.ntmps10], rfl⟩
  have h0_0 : a0.tmps.getD 0 undef = (.agg #[(.int .i64 m.ver), (.int .i64 m.td), (.int .u64 m.seq), (.int .u64 m.dsq), (.int .i64 m.ty), (.int .i64 m.st), (.bool m.pre), (.bool m.ifr), (.bool m.clo), (pto kp), (pto mp), sv]) := by subst hA; exact fr_arg rfl
  have h1_0 : a0.tmps.getD 1 undef = (.bool false) := by subst hA; exact fr_arg rfl
  have h2_0 : a0.tmps.getD 2 undef = (.int .u32 0) := by subst hA; exact fr_arg rfl
  clear hA
  have Kp0 := Kp.refl [] w0
  have hver : m.ver < 8 := okm.ver
  have hdv := dl20 m.ver (by omega)
  refine wp_seq ?_
  refine rg_list ?_
  obtain ⟨g3, hg3⟩ : ∃ g, w0.heap.size = g := ⟨_, rfl⟩
  have ge_3 : w0.heap.size ≤ g3 := by have := Kp0.size; omega
  obtain ⟨w1, hr1, B3_1, G1, hs1⟩ := al_run (op := Instr.box 44 (.agg #[(.int .i64 m.ver), (.int .i64 m.td), (.int .u64 m.seq), (.int .u64 m.dsq), (.int .i64 m.ty), (.int .i64 m.st), (.bool m.pre), (.bool m.ifr), (.bool m.clo), (pto kp), (pto mp), sv])) (T := 44) (cs := #[(.int .i64 m.ver), (.int .i64 m.td), (.int .u64 m.seq), (.int .u64 m.dsq), (.int .i64 m.ty), (.int .i64 m.st), (.bool m.pre), (.bool m.ifr), (.bool m.clo), (pto kp), (pto mp), sv]) hg3 (fun _ => by kernel_rfl)
  have Kp1 := Kp0.new G1
  refine wl_p (ex_bx h0_0 hr1) F0.l fun a1 u1 (h3_1 : a1.tmps.getD 3 undef = (.pointer (some ⟨g3, 0, none⟩))) => ?_
  have F1 := F0.pt u1
  refine wl_p (ex_as (v := (.string { data := #[] })) rfl) F1.l fun a2 u2 h6_2 => ?_
  have F2 := F1.pt u2
  change Code.wp _ _ _ _ _
  refine wp_seq ?_
  refine rg_list ?_
  refine wl_p (ex_fb 0 (u2.w h3_1)) F2.l fun a3 u3 h16_3 => ?_
  have F3 := F2.pt u3
  refine wl_p (ex_le (v := (.int .i64 m.ver)) h16_3 (B3_1.cell 0)) F3.l fun a4 u4 h17_4 => ?_
  have F4 := F3.pt u4
  refine wl_p (ex_conv (vx := (.int .i64 m.ver)) (v := (.int .u64 m.ver)) h17_4 (cv_3_25 m.ver (by have := okm.ver; omega) _)) F4.l fun a5 u5 h18_5 => ?_
  have F5 := F4.pt u5
  refine wl_cl (args := #[(.int .u64 m.ver)]) (R := fun v w' => v = .string (bs (Lib.decDigits m.ver)) ∧ w1 = w') (ex_cl (fun _ _ => by kernel_rfl) (arg1 h18_5)) ((decimal_any (m.ver : Int) w1 (by omega) (by omega)).mono fun _ _ h => ⟨_, h.1.trans (by rw [Int.toNat_natCast]), rfl, h.2⟩) F5.l ?_
  rintro v w' ⟨rfl, rfl⟩
  intro a6 u6 h19_6
  have F6 := F5.pt u6
  refine wl_p (ex_bin (vx := (.string { data := #[35, 69, 88, 84, 77, 51, 85, 10, 35, 69, 88, 84, 45, 88, 45, 86, 69, 82, 83, 73, 79, 78, 58] })) (v := (.string (bs (([35, 69, 88, 84, 77, 51, 85, 10, 35, 69, 88, 84, 45, 88, 45, 86, 69, 82, 83, 73, 79, 78, 58] : List UInt8) ++ (Lib.decDigits m.ver))))) rfl h19_6 (bo_adds ([35, 69, 88, 84, 77, 51, 85, 10, 35, 69, 88, 84, 45, 88, 45, 86, 69, 82, 83, 73, 79, 78, 58] : List UInt8) (Lib.decDigits m.ver) _ (by first | (simp only [List.length_append, List.length_cons, List.length_nil]; omega) | omega))) F6.l fun a7 u7 h20_7 => ?_
  have F7 := F6.pt u7
  refine wl_p (ex_bin (vy := (.string { data := #[10] })) (v := (.string (bs ((([35, 69, 88, 84, 77, 51, 85, 10, 35, 69, 88, 84, 45, 88, 45, 86, 69, 82, 83, 73, 79, 78, 58] : List UInt8) ++ (Lib.decDigits m.ver)) ++ ([10] : List UInt8))))) h20_7 rfl (bo_adds (([35, 69, 88, 84, 77, 51, 85, 10, 35, 69, 88, 84, 45, 88, 45, 86, 69, 82, 83, 73, 79, 78, 58] : List UInt8) ++ (Lib.decDigits m.ver)) ([10] : List UInt8) _ (by first | (simp only [List.length_append, List.length_cons, List.length_nil]; omega) | omega))) F7.l fun a8 u8 h21_8 => ?_
  have F8 := F7.pt u8
  refine wl_p (ex_as h21_8) F8.l fun a9 u9 h7_9 => ?_
  have F9 := F8.pt u9
  change Code.wp _ _ _ _ _
  refine wp_seq ?_
  refine rg_list ?_
  have h3_9 := u9.w (u8.w (u7.w (u6.w (u5.w (u4.w (u3.w (u2.w h3_1)))))))
  refine wl_p (ex_lda h3_9 (ld_agg (n := 12) (xs := #[(.int .i64 m.ver), (.int .i64 m.td), (.int .u64 m.seq), (.int .u64 m.dsq), (.int .i64 m.ty), (.int .i64 m.st), (.bool m.pre), (.bool m.ifr), (.bool m.clo), (pto kp), (pto mp), sv]) (fun _ => by kernel_rfl) (fun _ => by kernel_rfl) B3_1 rfl (fun _ _ => by rw [Nat.zero_add] <;> rfl))) F9.l fun a10 u10 (h22_10 : a10.tmps.getD 22 undef = (.agg #[(.int .i64 m.ver), (.int .i64 m.td), (.int .u64 m.seq), (.int .u64 m.dsq), (.int .i64 m.ty), (.int .i64 m.st), (.bool m.pre), (.bool m.ifr), (.bool m.clo), (pto kp), (pto mp), sv])) => ?_
  have F10 := F9.pt u10
  refine wl_cl (args := #[(.agg #[(.int .i64 m.ver), (.int .i64 m.td), (.int .u64 m.seq), (.int .u64 m.dsq), (.int .i64 m.ty), (.int .i64 m.st), (.bool m.pre), (.bool m.ifr), (.bool m.clo), (pto kp), (pto mp), sv])]) (R := fun v w' => ∃ ls, TRow w' w1.heap.size v ls ∧ ls.flatten = headX m.ty m.seq m.td m.st m.dsq m.pre m.ifr key map ∧ ls.length ≤ 30 ∧ w1.grownBy w' none) (ex_cl (fun _ _ => by kernel_rfl) (arg1 h22_10)) ((head_any okm hty (hk.gn Kp1.grown) (hm.gn Kp1.grown)).mono fun _ _ ⟨v, ls, h1, h2, h3, h4, h5⟩ => ⟨v, h1, ls, h2, h3, h4, h5⟩) F10.l ?_
  rintro lv w2 ⟨ls, R_2, hls, hll, G2⟩
  have B3_2 := B3_1.gn G2
  have Kp2 := Kp1.new G2
  intro a11 u11 h23_11
  have F11 := F10.pt u11
  refine wl_p (ex_as h23_11) F11.l fun a12 u12 h8_12 => ?_
  have F12 := F11.pt u12
  change Code.wp _ _ _ _ _
  refine wp_seq ?_
  refine wp_seq ?_
  refine rg_list ?_
  have h1_12 := u12.w (u11.w (u10.w (u9.w (u8.w (u7.w (u6.w (u5.w (u4.w (u3.w (u2.w (u1.w h1_0)))))))))))
  refine wl_p (ex_mv h1_12) F12.l fun a13 u13 h24_13 => ?_
  have F13 := F12.pt u13
  change Code.wp _ _ _ _ _
  refine wp_cond_false h24_13 ?_
  refine wp_skip ?_
  change Code.wp _ _ _ _ _
  refine wp_seq ?_
  refine wp_seq ?_
  refine rg_list ?_
  refine wl_p (ex_mv (u13.w h8_12)) F13.l fun a14 u14 h28_14 => ?_
  have F14 := F13.pt u14
  refine wl_p (ex_bi (w' := w2) (args := #[lv]) (v := (.int .i64 ls.length)) (arg1 h28_14) (R_2.len _)) F14.l fun a15 u15 h29_15 => ?_
  have F15 := F14.pt u15
  refine wl_p (ex_mv (v := (.int .i64 0)) rfl) F15.l fun a16 u16 h30_16 => ?_
  have F16 := F15.pt u16
  change Code.wp _ _ _ _ _
  have hhl := headX_len okm hk.ok_ hm.ok_
  have h1_16 := u16.w (u15.w (u14.w (u13.w h1_12)))
  have h3_16 := u16.w (u15.w (u14.w (u13.w (u12.w (u11.w (u10.w h3_9))))))
  have h7_16 := u16.w (u15.w (u14.w (u13.w (u12.w (u11.w (u10.w h7_9))))))
  refine hl_loop R_2 hll (by rw [hls]; omega) (by simp only [List.length_append, List.length_cons, List.length_nil]; omega) (⟨F16, h1_16, h3_16, h7_16, B3_2, Kp2, ge_3⟩ : JW w0 m kp mp sv g3 _ _ _) (u16.w (u15.w h28_14)) (u16.w h29_15) h30_16 fun a hJ => (?_ : Code.wp _ _ _ _ _)
  rw [hls] at hJ
  refine wp_seq (sw_segs hS hok ?_ hn12 hJ fun a w hJ => (?_ : Code.wp _ _ _ _ _))
  · simp only [List.length_append, List.length_cons, List.length_nil]; omega
  have hsl := segs_len segs hok
  have h := sw_end (by simp only [List.length_append, List.length_cons, List.length_nil]; omega) hJ
  refine Code.wp_mono ?_ h
  intro e a w hh
  unfold specX
  simpa only [List.append_assoc] using hh
end Go.Proofs.YtlphcidpaidclaaGreatDoor
