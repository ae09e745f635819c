/-
 FnSteps: the methods of the specification's window.
-/
import Derived.Test.YtdpebhlkgmopkaaDoorTrl
namespace Go.Proofs.YtdpebhlkgmopkaaDoor
open Go.RowKit
set_option maxRecDepth 100000
section
variable {x y : Operand}
theorem maxn_run {ats : Array TypeId} {ty : TypeId} {cs : Array Bool} (a b : Nat) (w : World) : (builtin .max ats ty cs #[.int .i64 a, .int .i64 b]).run Tryd.prog w = .ok (.value (.int .i64 (max a b : Nat))) w := by
 rcases Nat.le_total a b with h | h
 · simp [go_sem]
   omega
 · simp [go_sem]
   omega
theorem bo_eqn (m n : Nat) (w : World) : (do eqGuard .eql 3 x y (.int .i64 m) (.int .i64 n); binOp .eql 3 (.int .i64 m) (.int .i64 n) : Sem Value).run Tryd.prog w = .ok (.bool (decide (m = n))) w := by
 have h : decide ((m : Int) = n) = decide (m = n) := decide_eq_decide.2 (by omega)
 simp [go_sem]
 exact h
theorem bo_gtn (m n : Nat) (w : World) : (do eqGuard .gtr 3 x y (.int .i64 m) (.int .i64 n); binOp .gtr 3 (.int .i64 m) (.int .i64 n) : Sem Value).run Tryd.prog w = .ok (.bool (decide (n < m))) w := by
 simp [go_sem]
theorem bo_len (m n : Nat) (w : World) : (do eqGuard .leq 3 x y (.int .i64 m) (.int .i64 n); binOp .leq 3 (.int .i64 m) (.int .i64 n) : Sem Value).run Tryd.prog w = .ok (.bool (decide (m ≤ n))) w := by
 simp [go_sem]
theorem bo_gen (m n : Nat) (w : World) : (do eqGuard .geq 3 x y (.int .i64 m) (.int .i64 n); binOp .geq 3 (.int .i64 m) (.int .i64 n) : Sem Value).run Tryd.prog w = .ok (.bool (decide (n ≤ m))) w := by
 simp [go_sem]
theorem bo_ltn (m n : Nat) (w : World) : (do eqGuard .lss 3 x y (.int .i64 m) (.int .i64 n); binOp .lss 3 (.int .i64 m) (.int .i64 n) : Sem Value).run Tryd.prog w = .ok (.bool (decide (m < n))) w := by
 simp [go_sem]
theorem bo_addn (m n : Nat) (h : m + n < 9223372036854775808) (w : World) : (do eqGuard .add 3 x y (.int .i64 m) (.int .i64 n); binOp .add 3 (.int .i64 m) (.int .i64 n) : Sem Value).run Tryd.prog w = .ok (.int .i64 (m + n : Nat)) w := bo_addi3 m n w h
theorem bo_subn (m n : Nat) (h : n ≤ m) (hm : m < 9223372036854775808) (w : World) : (do eqGuard .sub 3 x y (.int .i64 m) (.int .i64 n); binOp .sub 3 (.int .i64 m) (.int .i64 n) : Sem Value).run Tryd.prog w = .ok (.int .i64 (m - n : Nat)) w := by
 simp [go_sem]
 rw [IntKind.wrap_i64]; omega
theorem bo_mul8 (m : Nat) (h : m < 1000000) (w : World) : (do eqGuard .mul 3 x y (.int .i64 m) (.int .i64 8); binOp .mul 3 (.int .i64 m) (.int .i64 8) : Sem Value).run Tryd.prog w = .ok (.int .i64 (m * 8 : Nat)) w := by
 simp [go_sem]
 rw [IntKind.wrap_i64]; omega
theorem bo_quo_8 (m : Nat) (h : m < 1000000) (w : World) : (do eqGuard .quo 3 x y (.int .i64 m) (.int .i64 8); binOp .quo 3 (.int .i64 m) (.int .i64 8) : Sem Value).run Tryd.prog w = .ok (.int .i64 (m / 8 : Nat)) w := by
 simp [go_sem]
 rw [IntKind.wrap_i64]; omega
theorem bo_add64 (m n : Nat) (h : m + n < 18446744073709551616) (w : World) : (do eqGuard .add 34 x y (.int .u64 m) (.int .u64 n); binOp .add 34 (.int .u64 m) (.int .u64 n) : Sem Value).run Tryd.prog w = .ok (.int .u64 (m + n : Nat)) w := by
 simp [go_sem]
 rw [IntKind.wrap_u64]; omega
end
theorem least_raw {wb p wr vr sq tg : Nat} {c i : Bool} {kp mp : Option Nat} {sv nv : Value} {n : Nat} {w0 : World} (Bw_0 : Blk w0 wb 51 #[.int .i64 p, .int .i64 wr, .int .i64 vr, .int .u64 sq, .int .i64 tg, .bool c, .bool i, pto kp, pto mp, sv, nv]) : Calls Tryd.prog 26 #[pt wb, .int .i64 n] w0 fun e w' => e = .returned (.tuple #[]) ∧ Blk w' wb 51 #[.int .i64 p, .int .i64 wr, .int .i64 (max vr n : Nat), .int .u64 sq, .int .i64 tg, .bool c, .bool i, pto kp, pto mp, sv, nv] ∧ w0.grownBy w' (some wb) := by
 refine calls_of_wp Tryd.func26 rfl ?_
 generalize hA : Act.mk _ _ = a0
 have F0 : Fz 13 a0 := by subst hA; exact ⟨by simp [Tryd.ntmps26], rfl⟩
 have h0_0 : a0.tmps.getD 0 undef = (.pointer (some ⟨wb, 0, none⟩)) := by subst hA; exact fr_arg rfl
 have h1_0 : a0.tmps.getD 1 undef = (.int .i64 n) := by subst hA; exact fr_arg rfl
 have Q_0 := grown_refl w0 (some wb)
 refine rg_list ?_
 refine wl_pq F0 (ex_mv h0_0) fun a1 u1 F1 h4_1 => ?_
 refine wl_pq F1 (ex_mv (u1.w h0_0)) fun a2 u2 F2 h5_2 => ?_
 refine wl_pq F2 (ex_nil h5_2) fun a3 u3 F3 h6_3 => ?_
 refine wl_pq F3 (ex_fb 2 h6_3) fun a4 u4 F4 h7_4 => ?_
 refine wl_pq F4 (ex_le (v := (.int .i64 vr)) h7_4 (Bw_0.cell 2)) fun a5 u5 F5 h8_5 => ?_
 have h1_5 := u5.w (u4.w (u3.w (u2.w (u1.w h1_0))))
 refine wl_pq F5 (ex_mv h1_5) fun a6 u6 F6 h9_6 => ?_
 refine wl_pq F6 (ex_bi (w' := w0) (args := #[(.int .i64 vr), (.int .i64 n)]) (v := (.int .i64 (max vr n : Nat))) (arg2 (u6.w h8_5) h9_6) (maxn_run _ _ _)) fun a7 u7 F7 h10_7 => ?_
 have h4_7 := u7.w (u6.w (u5.w (u4.w (u3.w (u2.w h4_1)))))
 refine wl_pq F7 (ex_nil h4_7) fun a8 u8 F8 h11_8 => ?_
 refine wl_pq F8 (ex_fb 2 h11_8) fun a9 u9 F9 h12_9 => ?_
 obtain ⟨w1, hr1, Bw_1, G1⟩ := st_run (T := 3) (o := 2) (v := (.int .i64 (max vr n : Nat))) (cs' := #[(.int .i64 p), (.int .i64 wr), (.int .i64 (max vr n : Nat)), (.int .u64 sq), (.int .i64 tg), (.bool c), (.bool i), (pto kp), (pto mp), sv, nv]) (fun _ => by kernel_rfl) Bw_0 rfl (Nat.le_of_ble_eq_true rfl) rfl
 have Q_1 := grown_trans Q_0 G1
 refine wl_n (ex_st h12_9 (u9.w (u8.w h10_7)) hr1) ?_
 clear Q_0
 exact bodyPost_end (v := .tuple #[]) (results_none rfl _ _ _) F9.defers ⟨rfl, Bw_1, Q_1⟩
theorem frames_raw {wb p wr vr sq tg : Nat} {c i : Bool} {kp mp : Option Nat} {sv nv : Value} {w0 : World} (Bw_0 : Blk w0 wb 51 #[.int .i64 p, .int .i64 wr, .int .i64 vr, .int .u64 sq, .int .i64 tg, .bool c, .bool i, pto kp, pto mp, sv, nv]) : Calls Tryd.prog 18 #[pt wb] w0 fun e w' => e = .returned (.tuple #[]) ∧ Blk w' wb 51 #[.int .i64 p, .int .i64 wr, .int .i64 (max vr 4 : Nat), .int .u64 sq, .int .i64 tg, .bool c, .bool true, pto kp, pto mp, sv, nv] ∧ w0.grownBy w' (some wb) := by
 refine calls_of_wp Tryd.func18 rfl ?_
 generalize hA : Act.mk _ _ = a0
 have F0 : Fz 7 a0 := by subst hA; exact ⟨by simp [Tryd.ntmps18], rfl⟩
 have h0_0 : a0.tmps.getD 0 undef = (.pointer (some ⟨wb, 0, none⟩)) := by subst hA; exact fr_arg rfl
 have Q_0 := grown_refl w0 (some wb)
 refine wp_sr ?_
 refine wl_pq F0 (ex_mv h0_0) fun a1 u1 F1 h2_1 => ?_
 refine wl_cl (args := #[(.pointer (some ⟨wb, 0, none⟩)), (.int .i64 4)]) (R := fun v w' => v = .tuple #[] ∧ Blk w' wb 51 #[(.int .i64 p), (.int .i64 wr), (.int .i64 (max vr 4 : Nat)), (.int .u64 sq), (.int .i64 tg), (.bool c), (.bool i), (pto kp), (pto mp), sv, nv] ∧ w0.grownBy w' (some wb)) (ex_cl (fun _ _ => by kernel_rfl) (arg2 h2_1 rfl)) ((least_raw (n := 4) Bw_0).mono fun _ _ h => ⟨_, h.1, rfl, h.2⟩) F1.l ?_
 rintro v w1 ⟨rfl, Bw_1, G1⟩
 have Q_1 := grown_trans Q_0 G1
 intro a2 u2 h3_2
 have F2 := F1.pt u2
 clear Q_0
 change Code.wp _ _ _ _ _
 refine rg_list ?_
 refine wl_pq F2 (ex_mv (u2.w (u1.w h0_0))) fun a3 u3 F3 h4_3 => ?_
 refine wl_pq F3 (ex_nil h4_3) fun a4 u4 F4 h5_4 => ?_
 refine wl_pq F4 (ex_fb 6 h5_4) fun a5 u5 F5 h6_5 => ?_
 obtain ⟨w2, hr2, Bw_2, G2⟩ := st_run (T := 4) (o := 6) (v := (.bool true)) (cs' := #[(.int .i64 p), (.int .i64 wr), (.int .i64 (max vr 4 : Nat)), (.int .u64 sq), (.int .i64 tg), (.bool c), (.bool true), (pto kp), (pto mp), sv, nv]) (fun _ => by kernel_rfl) Bw_1 rfl (Nat.le_of_ble_eq_true rfl) rfl
 have Q_2 := grown_trans Q_1 G2
 refine wl_n (ex_st h6_5 rfl hr2) ?_
 clear Q_1
 exact bodyPost_end (v := .tuple #[]) (results_none rfl _ _ _) F5.defers ⟨rfl, Bw_2, Q_2⟩
theorem last_nil {wb p wr vr sq tg : Nat} {c i : Bool} {kp mp : Option Nat} {sv nv : Value} {base : Nat} {segs : List SegD} {w0 : World} (Bw_0 : Blk w0 wb 51 #[.int .i64 p, .int .i64 wr, .int .i64 vr, .int .u64 sq, .int .i64 tg, .bool c, .bool i, pto kp, pto mp, sv, nv]) (sw_0 : SW w0 base sv segs) (hn : segs.length = 0) : Calls Tryd.prog 17 #[pt wb] w0 fun e w' => e = .returned (.pointer none) ∧ w0.grownBy w' none := by
 refine calls_of_wp Tryd.func17 rfl ?_
 generalize hA : Act.mk _ _ = a0
 have F0 : Fz 20 a0 := by subst hA; exact ⟨by simp [Tryd.ntmps17], rfl⟩
 have h0_0 : a0.tmps.getD 0 undef = (.pointer (some ⟨wb, 0, none⟩)) := by subst hA; exact fr_arg rfl
 have Q_0 := grown_refl w0 none
 refine wp_sr ?_
 refine wl_pq F0 (ex_as (v := (.pointer none)) rfl) fun a1 u1 F1 h2_1 => ?_
 change Code.wp _ _ _ _ _
 refine wp_seq ?_
 refine wp_sr ?_
 refine wl_pq F1 (ex_mv (u1.w h0_0)) fun a2 u2 F2 h3_2 => ?_
 refine wl_pq F2 (ex_nil h3_2) fun a3 u3 F3 h4_3 => ?_
 refine wl_pq F3 (ex_fb 9 h4_3) fun a4 u4 F4 h5_4 => ?_
 refine wl_pq F4 (ex_le (v := sv) h5_4 (Bw_0.cell 9)) fun a5 u5 F5 h6_5 => ?_
 refine wl_pq F5 (ex_bi (w' := w0) (args := #[sv]) (v := (.int .i64 segs.length)) (arg1 h6_5) (sw_0.len _)) fun a6 u6 F6 h7_6 => ?_
 refine wl_pq F6 (ex_bin (vy := (.int .i64 0)) (v := (.bool true)) h7_6 rfl ((bo_eqn segs.length 0 _).trans (by rw [decide_eq_true (by omega)]))) fun a7 u7 F7 h8_7 => ?_
 change Code.wp _ _ _ _ _
 refine wp_cond_true h8_7 ?_
 refine wp_sr ?_
 refine wl_pq F7 (ex_as (v := (.pointer none)) rfl) fun a8 u8 F8 h2_8 => ?_
 change Code.wp _ _ _ _ _
 refine wp_ret ?_
 try simp only [Exit.then, Exit.inBlock]
 exact bodyPost_ret (v := (.pointer none)) ((results_tmp rfl _ _ _).trans (by rw [h2_8])) F8.defers ⟨rfl, Q_0⟩
theorem last_some {wb p wr vr sq tg : Nat} {c i : Bool} {kp mp : Option Nat} {sv nv : Value} {base : Nat} {segs : List SegD} {gl ul : Nat} {w0 : World} (Bw_0 : Blk w0 wb 51 #[.int .i64 p, .int .i64 wr, .int .i64 vr, .int .u64 sq, .int .i64 tg, .bool c, .bool i, pto kp, pto mp, sv, nv]) (sw_0 : SW w0 base sv segs) (hn : 0 < segs.length) (hl : segs.length ≤ 1000) (hix : ∀ w, (Instr.indexAt 48 sv (.int .i64 (segs.length - 1 : Nat))).run Tryd.prog w = .ok (.pointer (some ⟨gl, ul, none⟩)) w) : Calls Tryd.prog 17 #[pt wb] w0 fun e w' => e = .returned (.pointer (some ⟨gl, ul, none⟩)) ∧ w0.grownBy w' none := by
 refine calls_of_wp Tryd.func17 rfl ?_
 generalize hA : Act.mk _ _ = a0
 have F0 : Fz 20 a0 := by subst hA; exact ⟨by simp [Tryd.ntmps17], rfl⟩
 have h0_0 : a0.tmps.getD 0 undef = (.pointer (some ⟨wb, 0, none⟩)) := by subst hA; exact fr_arg rfl
 have Q_0 := grown_refl w0 none
 refine wp_sr ?_
 refine wl_pq F0 (ex_as (v := (.pointer none)) rfl) fun a1 u1 F1 h2_1 => ?_
 change Code.wp _ _ _ _ _
 refine wp_seq ?_
 refine wp_sr ?_
 refine wl_pq F1 (ex_mv (u1.w h0_0)) fun a2 u2 F2 h3_2 => ?_
 refine wl_pq F2 (ex_nil h3_2) fun a3 u3 F3 h4_3 => ?_
 refine wl_pq F3 (ex_fb 9 h4_3) fun a4 u4 F4 h5_4 => ?_
 refine wl_pq F4 (ex_le (v := sv) h5_4 (Bw_0.cell 9)) fun a5 u5 F5 h6_5 => ?_
 refine wl_pq F5 (ex_bi (w' := w0) (args := #[sv]) (v := (.int .i64 segs.length)) (arg1 h6_5) (sw_0.len _)) fun a6 u6 F6 h7_6 => ?_
 refine wl_pq F6 (ex_bin (vy := (.int .i64 0)) (v := (.bool false)) h7_6 rfl ((bo_eqn segs.length 0 _).trans (by rw [decide_eq_false (by omega)]))) fun a7 u7 F7 h8_7 => ?_
 change Code.wp _ _ _ _ _
 refine wp_cond_false h8_7 ?_
 refine wp_skip ?_
 change Code.wp _ _ _ _ _
 refine wp_seq ?_
 obtain ⟨w1, hw1⟩ : ∃ w, w = w0.drew := ⟨_, rfl⟩
 have G1 : w0.grownBy w1 none := hw1 ▸ grown_drew _
 have Bw_1 := Bw_0.gn G1
 have Q_1 := grown_trans Q_0 G1
 refine rg_still hw1 hmix (by kernel_rfl) ?_
 clear Q_0
 have h0_7 := u7.w (u6.w (u5.w (u4.w (u3.w (u2.w (u1.w h0_0))))))
 refine st_pq F7 (ex_mv h0_7) fun a8 u8 F8 h9_8 => ?_
 refine st_pq F8 (ex_nil h9_8) fun a9 u9 F9 h10_9 => ?_
 refine st_pq F9 (ex_fb 9 h10_9) fun a10 u10 F10 h11_10 => ?_
 refine st_pq F10 (ex_le (v := sv) h11_10 (Bw_1.cell 9)) fun a11 u11 F11 h12_11 => ?_
 have h0_11 := u11.w (u10.w (u9.w (u8.w h0_7)))
 refine st_pq F11 (ex_mv h0_11) fun a12 u12 F12 h13_12 => ?_
 refine st_pq F12 (ex_nil h13_12) fun a13 u13 F13 h14_13 => ?_
 refine st_pq F13 (ex_fb 9 h14_13) fun a14 u14 F14 h15_14 => ?_
 refine st_pq F14 (ex_le (v := sv) h15_14 (Bw_1.cell 9)) fun a15 u15 F15 h16_15 => ?_
 refine st_pq F15 (ex_bi (w' := w1) (args := #[sv]) (v := (.int .i64 segs.length)) (arg1 h16_15) (sw_0.len _)) fun a16 u16 F16 h17_16 => ?_
 refine st_pq F16 (ex_bin (vy := (.int .i64 1)) (v := (.int .i64 (segs.length - 1 : Nat))) h17_16 rfl (bo_subn segs.length 1 (by omega) (by omega) _)) fun a17 u17 F17 h18_17 => ?_
 have h12_17 := u17.w (u16.w (u15.w (u14.w (u13.w (u12.w h12_11)))))
 refine st_pq F17 (ex_ixg (vx := sv) (vy := (.int .i64 (segs.length - 1 : Nat))) (v := (.pointer (some ⟨gl, ul, none⟩))) h12_17 h18_17 (hix _)) fun a18 u18 F18 h19_18 => ?_
 refine st_pq F18 (ex_as h19_18) fun a19 u19 F19 h2_19 => ?_
 change Code.wp _ _ _ _ _
 refine wp_ret ?_
 try simp only [Exit.then, Exit.inBlock]
 exact bodyPost_ret (v := (.pointer (some ⟨gl, ul, none⟩))) ((results_tmp rfl _ _ _).trans (by rw [h2_19])) F19.defers ⟨rfl, Q_1⟩
theorem NW.ktof {w w' : World} {base : Nat} {v : Value} {ns : List Nat} (h : NW w base v ns) (G : w.grownBy w' v.ownBlock) : Kt 0 [34] w w' := Kt.of_row h G
theorem SW.ktof {w w' : World} {base : Nat} {v : Value} {segs : List SegD} (h : SW w base v segs) (G : w.grownBy w' v.ownBlock) : Kt 0 [32] w w' := by obtain ⟨xs, h, _⟩ := h; exact Kt.of_row h G
theorem NW.ktr {w w' w0 : World} {base B : Nat} {D : List Nat} {v : Value} {ns : List Nat} (h : NW w base v ns) (K : Kt B D w0 w) (hB : B ≤ w0.heap.size) (hb : B ≤ base) (hT : 34 ∈ D) (G : w.grownBy w' v.ownBlock) : Kt B D w0 w' := ShR.ktr h K hB hb hT G
theorem SW.ktr {w w' w0 : World} {base B : Nat} {D : List Nat} {v : Value} {segs : List SegD} (h : SW w base v segs) (K : Kt B D w0 w) (hB : B ≤ w0.heap.size) (hb : B ≤ base) (hT : 32 ∈ D) (G : w.grownBy w' v.ownBlock) : Kt B D w0 w' := by obtain ⟨xs, h, _⟩ := h; exact h.ktr K hB hb hT G
theorem SW.far {w : World} {base g : Nat} {v : Value} {segs : List SegD} (h : SW w base v segs) (hg : w.heap.size = g) : some g ≠ v.ownBlock := by
 obtain ⟨xs, h, _⟩ := h
 rcases h.2 with ⟨rfl, _⟩ | ⟨r, o, cap, cur, rfl, _, h2, _⟩
 · exact fun e => by cases e
 · exact fun e => by
     have h3 := h2.lt
     have h4 : g = r := Option.some.inj e
     omega
theorem take_true {wb p wr vr sq tg : Nat} {i : Bool} {kp mp : Option Nat} {sv nv : Value} {base m : Nat} {s : SegD} {segs : List SegD} {ns : List Nat} {w0 : World} (hsq : sq < 1000) (Bw_0 : Blk w0 wb 51 #[.int .i64 p, .int .i64 wr, .int .i64 vr, .int .u64 sq, .int .i64 tg, .bool true, .bool i, pto kp, pto mp, sv, nv]) (sw_0 : SW w0 base sv (s :: segs)) (nw_0 : NW w0 base nv (m :: ns)) : Calls Tryd.prog 8 #[pt wb] w0 fun e w' => e = .returned (.bool true) ∧ ∃ sv2 nv2, Blk w' wb 51 #[.int .i64 p, .int .i64 wr, .int .i64 vr, .int .u64 sq, .int .i64 tg, .bool true, .bool i, pto kp, pto mp, sv2, nv2] ∧ SW w' base sv2 segs ∧ NW w' base nv2 ns ∧ w0.grownBy w' (some wb) := by
 refine calls_of_wp Tryd.func8 rfl ?_
 generalize hA : Act.mk _ _ = a0
 have F0 : Fz 37 a0 := by subst hA; exact ⟨by simp [Tryd.ntmps8], rfl⟩
 have h0_0 : a0.tmps.getD 0 undef = (.pointer (some ⟨wb, 0, none⟩)) := by subst hA; exact fr_arg rfl
 have Q_0 := grown_refl w0 (some wb)
 obtain ⟨sv2, hs2, sx_0⟩ := sw_0.drop
 obtain ⟨nv2, hn2, nx_0⟩ := nw_0.drop
 refine wp_sr ?_
 refine wl_pq F0 (ex_as (v := (.bool false)) rfl) fun a1 u1 F1 h2_1 => ?_
 change Code.wp _ _ _ _ _
 refine wp_seq ?_
 refine wp_sr ?_
 refine wl_pq F1 (ex_mv (u1.w h0_0)) fun a2 u2 F2 h3_2 => ?_
 refine wl_pq F2 (ex_nil h3_2) fun a3 u3 F3 h4_3 => ?_
 refine wl_pq F3 (ex_fb 9 h4_3) fun a4 u4 F4 h5_4 => ?_
 refine wl_pq F4 (ex_le (v := sv) h5_4 (Bw_0.cell 9)) fun a5 u5 F5 h6_5 => ?_
 refine wl_pq F5 (ex_bi (w' := w0) (args := #[sv]) (v := (.int .i64 (s :: segs).length)) (arg1 h6_5) (sw_0.len _)) fun a6 u6 F6 h7_6 => ?_
 refine wl_pq F6 (ex_bin (vy := (.int .i64 0)) (v := (.bool false)) h7_6 rfl ((bo_eqn (s :: segs).length 0 _).trans (by rw [decide_eq_false (by simp)]))) fun a7 u7 F7 h8_7 => ?_
 change Code.wp _ _ _ _ _
 refine wp_cond_false h8_7 ?_
 refine wp_skip ?_
 change Code.wp _ _ _ _ _
 refine wp_seq ?_
 obtain ⟨w1, hw1⟩ : ∃ w, w = w0.drew := ⟨_, rfl⟩
 have G1 : w0.grownBy w1 none := hw1 ▸ grown_drew _
 have Bw_1 := Bw_0.gn G1
 have Q_1 := grown_trans Q_0 (grown_any G1)
 have sw_1 := sw_0.kt (Kt.of_none G1) (by decide) (by decide) (by decide)
 have nw_1 := nw_0.kt (Kt.of_none G1) (by decide)
 have sx_1 := sx_0.kt (Kt.of_none G1) (by decide) (by decide) (by decide)
 have nx_1 := nx_0.kt (Kt.of_none G1) (by decide)
 refine rg_ltree 14 18 (fun w' => Blk w' wb 51 #[(.int .i64 p), (.int .i64 wr), (.int .i64 vr), (.int .u64 sq), (.int .i64 tg), (.bool true), (.bool i), (pto kp), (pto mp), sv, nv]) hw1 hmix rfl ?_
 clear Q_0 sw_0 nw_0 sx_0 nx_0
 have h0_7 := u7.w (u6.w (u5.w (u4.w (u3.w (u2.w (u1.w h0_0))))))
 refine ltree_free (j := 0) rfl (by kernel_rfl) (by kernel_rfl) (by kernel_rfl) (by decide) (fun w => ex_mv (v := (.pointer (some ⟨wb, 0, none⟩))) h0_7) (.inr Bw_1) F7.l fun a8 u8 (h9_8 : a8.tmps.getD 9 undef = (.pointer (some ⟨wb, 0, none⟩))) => ?_
 have F8 := F7.pt u8
 refine ltree_free (j := 1) rfl (by kernel_rfl) (by kernel_rfl) (by kernel_rfl) (by decide) (fun w => ex_mv (v := (.pointer (some ⟨wb, 0, none⟩))) (u8.w h0_7)) (.inr Bw_1) F8.l fun a9 u9 (h10_9 : a9.tmps.getD 10 undef = (.pointer (some ⟨wb, 0, none⟩))) => ?_
 have F9 := F8.pt u9
 refine ltree_free (j := 2) rfl (by kernel_rfl) (by kernel_rfl) (by kernel_rfl) (by decide) (fun w => ex_mv (v := (.pointer (some ⟨wb, 0, none⟩))) (u9.w (u8.w h0_7))) (.inr Bw_1) F9.l fun a10 u10 (h11_10 : a10.tmps.getD 11 undef = (.pointer (some ⟨wb, 0, none⟩))) => ?_
 have F10 := F9.pt u10
 refine ltree_free (j := 3) rfl (by kernel_rfl) (by kernel_rfl) (by kernel_rfl) (by decide) (fun w => ex_nil (ad := ⟨wb, 0, none⟩) h11_10) (.inr Bw_1) F10.l fun a11 u11 (h12_11 : a11.tmps.getD 12 undef = (.pointer (some ⟨wb, 0, none⟩))) => ?_
 have F11 := F10.pt u11
 refine ltree_free (j := 4) rfl (by kernel_rfl) (by kernel_rfl) (by kernel_rfl) (by decide) (fun w => ex_fa (T := 51) (f := 9) (k := 9) (b := wb) (fun _ _ => by kernel_rfl) h12_11) (.inr Bw_1) F11.l fun a12 u12 (h13_12 : a12.tmps.getD 13 undef = (.pointer (some ⟨wb, 9, none⟩))) => ?_
 have F12 := F11.pt u12
 refine ltree_take (j := 5) rfl (by kernel_rfl) (by kernel_rfl) (by kernel_rfl) (by kernel_rfl) (by decide) (by kernel_rfl) (fun w hw => ex_le (v := sv) h13_12 (hw.cell 9)) (Bw_1) F12.l fun a13 u13 h14_13 => ?_
 have F13 := F12.pt u13
 refine ltree_free (j := 6) rfl (by kernel_rfl) (by kernel_rfl) (by kernel_rfl) (by decide) (fun w => ex_sl (v := sv2) h14_13 rfl rfl rfl (hs2 _)) (.inr Bw_1) F13.l fun a14 u14 (h15_14 : a14.tmps.getD 15 undef = sv2) => ?_
 have F14 := F13.pt u14
 have h0_14 := u14.w (u13.w (u12.w (u11.w (u10.w (u9.w (u8.w h0_7))))))
 refine ltree_free (j := 7) rfl (by kernel_rfl) (by kernel_rfl) (by kernel_rfl) (by decide) (fun w => ex_mv (v := (.pointer (some ⟨wb, 0, none⟩))) h0_14) (.inr Bw_1) F14.l fun a15 u15 (h16_15 : a15.tmps.getD 16 undef = (.pointer (some ⟨wb, 0, none⟩))) => ?_
 have F15 := F14.pt u15
 refine ltree_free (j := 8) rfl (by kernel_rfl) (by kernel_rfl) (by kernel_rfl) (by decide) (fun w => ex_nil (ad := ⟨wb, 0, none⟩) h16_15) (.inr Bw_1) F15.l fun a16 u16 (h17_16 : a16.tmps.getD 17 undef = (.pointer (some ⟨wb, 0, none⟩))) => ?_
 have F16 := F15.pt u16
 refine ltree_free (j := 9) rfl (by kernel_rfl) (by kernel_rfl) (by kernel_rfl) (by decide) (fun w => ex_fa (T := 51) (f := 10) (k := 10) (b := wb) (fun _ _ => by kernel_rfl) h17_16) (.inr Bw_1) F16.l fun a17 u17 (h18_17 : a17.tmps.getD 18 undef = (.pointer (some ⟨wb, 10, none⟩))) => ?_
 have F17 := F16.pt u17
 refine ltree_take (j := 10) rfl (by kernel_rfl) (by kernel_rfl) (by kernel_rfl) (by kernel_rfl) (by decide) (by kernel_rfl) (fun w hw => ex_le (v := nv) h18_17 (hw.cell 10)) (Bw_1) F17.l fun a18 u18 h19_18 => ?_
 have F18 := F17.pt u18
 refine ltree_free (j := 11) rfl (by kernel_rfl) (by kernel_rfl) (by kernel_rfl) (by decide) (fun w => ex_sl (v := nv2) h19_18 rfl rfl rfl (hn2 _)) (.inr Bw_1) F18.l fun a19 u19 (h20_19 : a19.tmps.getD 20 undef = nv2) => ?_
 have F19 := F18.pt u19
 have h9_19 := u19.w (u18.w (u17.w (u16.w (u15.w (u14.w (u13.w (u12.w (u11.w (u10.w (u9.w h9_8))))))))))
 refine ltree_free (j := 12) rfl (by kernel_rfl) (by kernel_rfl) (by kernel_rfl) (by decide) (fun w => ex_nil (ad := ⟨wb, 0, none⟩) h9_19) (.inr Bw_1) F19.l fun a20 u20 (h21_20 : a20.tmps.getD 21 undef = (.pointer (some ⟨wb, 0, none⟩))) => ?_
 have F20 := F19.pt u20
 refine ltree_free (j := 13) rfl (by kernel_rfl) (by kernel_rfl) (by kernel_rfl) (by decide) (fun w => ex_fa (T := 51) (f := 9) (k := 9) (b := wb) (fun _ _ => by kernel_rfl) h21_20) (.inr Bw_1) F20.l fun a21 u21 (h22_21 : a21.tmps.getD 22 undef = (.pointer (some ⟨wb, 9, none⟩))) => ?_
 have F21 := F20.pt u21
 refine ltree1 (j := 14) (by kernel_rfl) ?_
 obtain ⟨w2, hr2, Bw_2, G2⟩ := st_run (T := 48) (o := 9) (v := sv2) (cs' := #[(.int .i64 p), (.int .i64 wr), (.int .i64 vr), (.int .u64 sq), (.int .i64 tg), (.bool true), (.bool i), (pto kp), (pto mp), sv2, nv]) (fun _ => by kernel_rfl) Bw_1 sx_1.one (by simp) rfl
 have Q_2 := grown_trans Q_1 G2
 have sw_2 := sw_1.kt (Kt.of_blk Bw_1 G2) (by decide) (by decide) (by decide)
 have nw_2 := nw_1.kt (Kt.of_blk Bw_1 G2) (by decide)
 have sx_2 := sx_1.kt (Kt.of_blk Bw_1 G2) (by decide) (by decide) (by decide)
 have nx_2 := nx_1.kt (Kt.of_blk Bw_1 G2) (by decide)
 have h15_21 := u21.w (u20.w (u19.w (u18.w (u17.w (u16.w (u15.w h15_14))))))
 refine tkl_n rfl (ex_st h22_21 h15_21 hr2) (.inl (by kernel_rfl)) ?_
 clear Q_1 sw_1 nw_1 sx_1 nx_1
 have h10_21 := u21.w (u20.w (u19.w (u18.w (u17.w (u16.w (u15.w (u14.w (u13.w (u12.w (u11.w (u10.w h10_9)))))))))))
 refine ltree_free (j := 15) rfl (by kernel_rfl) (by kernel_rfl) (by kernel_rfl) (by decide) (fun w => ex_nil (ad := ⟨wb, 0, none⟩) h10_21) (.inl (by kernel_rfl)) F21.l fun a22 u22 (h23_22 : a22.tmps.getD 23 undef = (.pointer (some ⟨wb, 0, none⟩))) => ?_
 have F22 := F21.pt u22
 refine ltree_free (j := 16) rfl (by kernel_rfl) (by kernel_rfl) (by kernel_rfl) (by decide) (fun w => ex_fa (T := 51) (f := 10) (k := 10) (b := wb) (fun _ _ => by kernel_rfl) h23_22) (.inl (by kernel_rfl)) F22.l fun a23 u23 (h24_23 : a23.tmps.getD 24 undef = (.pointer (some ⟨wb, 10, none⟩))) => ?_
 have F23 := F22.pt u23
 refine ltree1 (j := 17) (by kernel_rfl) ?_
 obtain ⟨w3, hr3, Bw_3, G3⟩ := st_run (T := 49) (o := 10) (v := nv2) (cs' := #[(.int .i64 p), (.int .i64 wr), (.int .i64 vr), (.int .u64 sq), (.int .i64 tg), (.bool true), (.bool i), (pto kp), (pto mp), sv2, nv2]) (fun _ => by kernel_rfl) Bw_2 nx_2.one (by simp) rfl
 have Q_3 := grown_trans Q_2 G3
 have sw_3 := sw_2.kt (Kt.of_blk Bw_2 G3) (by decide) (by decide) (by decide)
 have nw_3 := nw_2.kt (Kt.of_blk Bw_2 G3) (by decide)
 have sx_3 := sx_2.kt (Kt.of_blk Bw_2 G3) (by decide) (by decide) (by decide)
 have nx_3 := nx_2.kt (Kt.of_blk Bw_2 G3) (by decide)
 have h20_23 := u23.w (u22.w (u21.w (u20.w h20_19)))
 refine tkl_n rfl (ex_st h24_23 h20_23 hr3) (.inl (by kernel_rfl)) ?_
 clear Q_2 sw_2 nw_2 sx_2 nx_2
 refine ltree0 (by kernel_rfl) ?_
 change Code.wp _ _ _ _ _
 refine wp_seq ?_
 refine wp_sr ?_
 have h0_23 := u23.w (u22.w (u21.w (u20.w (u19.w (u18.w (u17.w (u16.w (u15.w h0_14))))))))
 refine wl_pq F23 (ex_mv h0_23) fun a24 u24 F24 h25_24 => ?_
 refine wl_pq F24 (ex_nil h25_24) fun a25 u25 F25 h26_25 => ?_
 refine wl_pq F25 (ex_fb 5 h26_25) fun a26 u26 F26 h27_26 => ?_
 refine wl_pq F26 (ex_le (v := (.bool true)) h27_26 (Bw_3.cell 5)) fun a27 u27 F27 h28_27 => ?_
 refine wl_pq F27 (ex_un (vx := (.bool true)) (v := (.bool false)) h28_27 rfl) fun a28 u28 F28 h29_28 => ?_
 change Code.wp _ _ _ _ _
 refine wp_cond_false h29_28 ?_
 refine wp_skip ?_
 change Code.wp _ _ _ _ _
 refine wp_sr ?_
 refine wl_pq F28 (ex_as (v := (.bool true)) rfl) fun a29 u29 F29 h2_29 => ?_
 change Code.wp _ _ _ _ _
 refine wp_ret ?_
 try simp only [Exit.then, Exit.inBlock]
 exact bodyPost_ret (v := (.bool true)) ((results_tmp rfl _ _ _).trans (by rw [h2_29])) F29.defers ⟨rfl, sv2, nv2, Bw_3, sx_3, nx_3, Q_3⟩
theorem take_false {wb p wr vr sq tg : Nat} {i : Bool} {kp mp : Option Nat} {sv nv : Value} {base m : Nat} {s : SegD} {segs : List SegD} {ns : List Nat} {w0 : World} (hsq : sq < 1000) (Bw_0 : Blk w0 wb 51 #[.int .i64 p, .int .i64 wr, .int .i64 vr, .int .u64 sq, .int .i64 tg, .bool false, .bool i, pto kp, pto mp, sv, nv]) (sw_0 : SW w0 base sv (s :: segs)) (nw_0 : NW w0 base nv (m :: ns)) : Calls Tryd.prog 8 #[pt wb] w0 fun e w' => e = .returned (.bool true) ∧ ∃ sv2 nv2, Blk w' wb 51 #[.int .i64 p, .int .i64 wr, .int .i64 vr, .int .u64 (sq + 1 : Nat), .int .i64 tg, .bool false, .bool i, pto kp, pto mp, sv2, nv2] ∧ SW w' base sv2 segs ∧ NW w' base nv2 ns ∧ w0.grownBy w' (some wb) := by
 refine calls_of_wp Tryd.func8 rfl ?_
 generalize hA : Act.mk _ _ = a0
 have F0 : Fz 37 a0 := by subst hA; exact ⟨by simp [Tryd.ntmps8], rfl⟩
 have h0_0 : a0.tmps.getD 0 undef = (.pointer (some ⟨wb, 0, none⟩)) := by subst hA; exact fr_arg rfl
 have Q_0 := grown_refl w0 (some wb)
 obtain ⟨sv2, hs2, sx_0⟩ := sw_0.drop
 obtain ⟨nv2, hn2, nx_0⟩ := nw_0.drop
 refine wp_sr ?_
 refine wl_pq F0 (ex_as (v := (.bool false)) rfl) fun a1 u1 F1 h2_1 => ?_
 change Code.wp _ _ _ _ _
 refine wp_seq ?_
 refine wp_sr ?_
 refine wl_pq F1 (ex_mv (u1.w h0_0)) fun a2 u2 F2 h3_2 => ?_
 refine wl_pq F2 (ex_nil h3_2) fun a3 u3 F3 h4_3 => ?_
 refine wl_pq F3 (ex_fb 9 h4_3) fun a4 u4 F4 h5_4 => ?_
 refine wl_pq F4 (ex_le (v := sv) h5_4 (Bw_0.cell 9)) fun a5 u5 F5 h6_5 => ?_
 refine wl_pq F5 (ex_bi (w' := w0) (args := #[sv]) (v := (.int .i64 (s :: segs).length)) (arg1 h6_5) (sw_0.len _)) fun a6 u6 F6 h7_6 => ?_
 refine wl_pq F6 (ex_bin (vy := (.int .i64 0)) (v := (.bool false)) h7_6 rfl ((bo_eqn (s :: segs).length 0 _).trans (by rw [decide_eq_false (by simp)]))) fun a7 u7 F7 h8_7 => ?_
 change Code.wp _ _ _ _ _
 refine wp_cond_false h8_7 ?_
 refine wp_skip ?_
 change Code.wp _ _ _ _ _
 refine wp_seq ?_
 obtain ⟨w1, hw1⟩ : ∃ w, w = w0.drew := ⟨_, rfl⟩
 have G1 : w0.grownBy w1 none := hw1 ▸ grown_drew _
 have Bw_1 := Bw_0.gn G1
 have Q_1 := grown_trans Q_0 (grown_any G1)
 have sw_1 := sw_0.kt (Kt.of_none G1) (by decide) (by decide) (by decide)
 have nw_1 := nw_0.kt (Kt.of_none G1) (by decide)
 have sx_1 := sx_0.kt (Kt.of_none G1) (by decide) (by decide) (by decide)
 have nx_1 := nx_0.kt (Kt.of_none G1) (by decide)
 refine rg_ltree 14 18 (fun w' => Blk w' wb 51 #[(.int .i64 p), (.int .i64 wr), (.int .i64 vr), (.int .u64 sq), (.int .i64 tg), (.bool false), (.bool i), (pto kp), (pto mp), sv, nv]) hw1 hmix rfl ?_
 clear Q_0 sw_0 nw_0 sx_0 nx_0
 have h0_7 := u7.w (u6.w (u5.w (u4.w (u3.w (u2.w (u1.w h0_0))))))
 refine ltree_free (j := 0) rfl (by kernel_rfl) (by kernel_rfl) (by kernel_rfl) (by decide) (fun w => ex_mv (v := (.pointer (some ⟨wb, 0, none⟩))) h0_7) (.inr Bw_1) F7.l fun a8 u8 (h9_8 : a8.tmps.getD 9 undef = (.pointer (some ⟨wb, 0, none⟩))) => ?_
 have F8 := F7.pt u8
 refine ltree_free (j := 1) rfl (by kernel_rfl) (by kernel_rfl) (by kernel_rfl) (by decide) (fun w => ex_mv (v := (.pointer (some ⟨wb, 0, none⟩))) (u8.w h0_7)) (.inr Bw_1) F8.l fun a9 u9 (h10_9 : a9.tmps.getD 10 undef = (.pointer (some ⟨wb, 0, none⟩))) => ?_
 have F9 := F8.pt u9
 refine ltree_free (j := 2) rfl (by kernel_rfl) (by kernel_rfl) (by kernel_rfl) (by decide) (fun w => ex_mv (v := (.pointer (some ⟨wb, 0, none⟩))) (u9.w (u8.w h0_7))) (.inr Bw_1) F9.l fun a10 u10 (h11_10 : a10.tmps.getD 11 undef = (.pointer (some ⟨wb, 0, none⟩))) => ?_
 have F10 := F9.pt u10
 refine ltree_free (j := 3) rfl (by kernel_rfl) (by kernel_rfl) (by kernel_rfl) (by decide) (fun w => ex_nil (ad := ⟨wb, 0, none⟩) h11_10) (.inr Bw_1) F10.l fun a11 u11 (h12_11 : a11.tmps.getD 12 undef = (.pointer (some ⟨wb, 0, none⟩))) => ?_
 have F11 := F10.pt u11
 refine ltree_free (j := 4) rfl (by kernel_rfl) (by kernel_rfl) (by kernel_rfl) (by decide) (fun w => ex_fa (T := 51) (f := 9) (k := 9) (b := wb) (fun _ _ => by kernel_rfl) h12_11) (.inr Bw_1) F11.l fun a12 u12 (h13_12 : a12.tmps.getD 13 undef = (.pointer (some ⟨wb, 9, none⟩))) => ?_
 have F12 := F11.pt u12
 refine ltree_take (j := 5) rfl (by kernel_rfl) (by kernel_rfl) (by kernel_rfl) (by kernel_rfl) (by decide) (by kernel_rfl) (fun w hw => ex_le (v := sv) h13_12 (hw.cell 9)) (Bw_1) F12.l fun a13 u13 h14_13 => ?_
 have F13 := F12.pt u13
 refine ltree_free (j := 6) rfl (by kernel_rfl) (by kernel_rfl) (by kernel_rfl) (by decide) (fun w => ex_sl (v := sv2) h14_13 rfl rfl rfl (hs2 _)) (.inr Bw_1) F13.l fun a14 u14 (h15_14 : a14.tmps.getD 15 undef = sv2) => ?_
 have F14 := F13.pt u14
 have h0_14 := u14.w (u13.w (u12.w (u11.w (u10.w (u9.w (u8.w h0_7))))))
 refine ltree_free (j := 7) rfl (by kernel_rfl) (by kernel_rfl) (by kernel_rfl) (by decide) (fun w => ex_mv (v := (.pointer (some ⟨wb, 0, none⟩))) h0_14) (.inr Bw_1) F14.l fun a15 u15 (h16_15 : a15.tmps.getD 16 undef = (.pointer (some ⟨wb, 0, none⟩))) => ?_
 have F15 := F14.pt u15
 refine ltree_free (j := 8) rfl (by kernel_rfl) (by kernel_rfl) (by kernel_rfl) (by decide) (fun w => ex_nil (ad := ⟨wb, 0, none⟩) h16_15) (.inr Bw_1) F15.l fun a16 u16 (h17_16 : a16.tmps.getD 17 undef = (.pointer (some ⟨wb, 0, none⟩))) => ?_
 have F16 := F15.pt u16
 refine ltree_free (j := 9) rfl (by kernel_rfl) (by kernel_rfl) (by kernel_rfl) (by decide) (fun w => ex_fa (T := 51) (f := 10) (k := 10) (b := wb) (fun _ _ => by kernel_rfl) h17_16) (.inr Bw_1) F16.l fun a17 u17 (h18_17 : a17.tmps.getD 18 undef = (.pointer (some ⟨wb, 10, none⟩))) => ?_
 have F17 := F16.pt u17
 refine ltree_take (j := 10) rfl (by kernel_rfl) (by kernel_rfl) (by kernel_rfl) (by kernel_rfl) (by decide) (by kernel_rfl) (fun w hw => ex_le (v := nv) h18_17 (hw.cell 10)) (Bw_1) F17.l fun a18 u18 h19_18 => ?_
 have F18 := F17.pt u18
 refine ltree_free (j := 11) rfl (by kernel_rfl) (by kernel_rfl) (by kernel_rfl) (by decide) (fun w => ex_sl (v := nv2) h19_18 rfl rfl rfl (hn2 _)) (.inr Bw_1) F18.l fun a19 u19 (h20_19 : a19.tmps.getD 20 undef = nv2) => ?_
 have F19 := F18.pt u19
 have h9_19 := u19.w (u18.w (u17.w (u16.w (u15.w (u14.w (u13.w (u12.w (u11.w (u10.w (u9.w h9_8))))))))))
 refine ltree_free (j := 12) rfl (by kernel_rfl) (by kernel_rfl) (by kernel_rfl) (by decide) (fun w => ex_nil (ad := ⟨wb, 0, none⟩) h9_19) (.inr Bw_1) F19.l fun a20 u20 (h21_20 : a20.tmps.getD 21 undef = (.pointer (some ⟨wb, 0, none⟩))) => ?_
 have F20 := F19.pt u20
 refine ltree_free (j := 13) rfl (by kernel_rfl) (by kernel_rfl) (by kernel_rfl) (by decide) (fun w => ex_fa (T := 51) (f := 9) (k := 9) (b := wb) (fun _ _ => by kernel_rfl) h21_20) (.inr Bw_1) F20.l fun a21 u21 (h22_21 : a21.tmps.getD 22 undef = (.pointer (some ⟨wb, 9, none⟩))) => ?_
 have F21 := F20.pt u21
 refine ltree1 (j := 14) (by kernel_rfl) ?_
 obtain ⟨w2, hr2, Bw_2, G2⟩ := st_run (T := 48) (o := 9) (v := sv2) (cs' := #[(.int .i64 p), (.int .i64 wr), (.int .i64 vr), (.int .u64 sq), (.int .i64 tg), (.bool false), (.bool i), (pto kp), (pto mp), sv2, nv]) (fun _ => by kernel_rfl) Bw_1 sx_1.one (by simp) rfl
 have Q_2 := grown_trans Q_1 G2
 have sw_2 := sw_1.kt (Kt.of_blk Bw_1 G2) (by decide) (by decide) (by decide)
 have nw_2 := nw_1.kt (Kt.of_blk Bw_1 G2) (by decide)
 have sx_2 := sx_1.kt (Kt.of_blk Bw_1 G2) (by decide) (by decide) (by decide)
 have nx_2 := nx_1.kt (Kt.of_blk Bw_1 G2) (by decide)
 have h15_21 := u21.w (u20.w (u19.w (u18.w (u17.w (u16.w (u15.w h15_14))))))
 refine tkl_n rfl (ex_st h22_21 h15_21 hr2) (.inl (by kernel_rfl)) ?_
 clear Q_1 sw_1 nw_1 sx_1 nx_1
 have h10_21 := u21.w (u20.w (u19.w (u18.w (u17.w (u16.w (u15.w (u14.w (u13.w (u12.w (u11.w (u10.w h10_9)))))))))))
 refine ltree_free (j := 15) rfl (by kernel_rfl) (by kernel_rfl) (by kernel_rfl) (by decide) (fun w => ex_nil (ad := ⟨wb, 0, none⟩) h10_21) (.inl (by kernel_rfl)) F21.l fun a22 u22 (h23_22 : a22.tmps.getD 23 undef = (.pointer (some ⟨wb, 0, none⟩))) => ?_
 have F22 := F21.pt u22
 refine ltree_free (j := 16) rfl (by kernel_rfl) (by kernel_rfl) (by kernel_rfl) (by decide) (fun w => ex_fa (T := 51) (f := 10) (k := 10) (b := wb) (fun _ _ => by kernel_rfl) h23_22) (.inl (by kernel_rfl)) F22.l fun a23 u23 (h24_23 : a23.tmps.getD 24 undef = (.pointer (some ⟨wb, 10, none⟩))) => ?_
 have F23 := F22.pt u23
 refine ltree1 (j := 17) (by kernel_rfl) ?_
 obtain ⟨w3, hr3, Bw_3, G3⟩ := st_run (T := 49) (o := 10) (v := nv2) (cs' := #[(.int .i64 p), (.int .i64 wr), (.int .i64 vr), (.int .u64 sq), (.int .i64 tg), (.bool false), (.bool i), (pto kp), (pto mp), sv2, nv2]) (fun _ => by kernel_rfl) Bw_2 nx_2.one (by simp) rfl
 have Q_3 := grown_trans Q_2 G3
 have sw_3 := sw_2.kt (Kt.of_blk Bw_2 G3) (by decide) (by decide) (by decide)
 have nw_3 := nw_2.kt (Kt.of_blk Bw_2 G3) (by decide)
 have sx_3 := sx_2.kt (Kt.of_blk Bw_2 G3) (by decide) (by decide) (by decide)
 have nx_3 := nx_2.kt (Kt.of_blk Bw_2 G3) (by decide)
 have h20_23 := u23.w (u22.w (u21.w (u20.w h20_19)))
 refine tkl_n rfl (ex_st h24_23 h20_23 hr3) (.inl (by kernel_rfl)) ?_
 clear Q_2 sw_2 nw_2 sx_2 nx_2
 refine ltree0 (by kernel_rfl) ?_
 change Code.wp _ _ _ _ _
 refine wp_seq ?_
 refine wp_sr ?_
 have h0_23 := u23.w (u22.w (u21.w (u20.w (u19.w (u18.w (u17.w (u16.w (u15.w h0_14))))))))
 refine wl_pq F23 (ex_mv h0_23) fun a24 u24 F24 h25_24 => ?_
 refine wl_pq F24 (ex_nil h25_24) fun a25 u25 F25 h26_25 => ?_
 refine wl_pq F25 (ex_fb 5 h26_25) fun a26 u26 F26 h27_26 => ?_
 refine wl_pq F26 (ex_le (v := (.bool false)) h27_26 (Bw_3.cell 5)) fun a27 u27 F27 h28_27 => ?_
 refine wl_pq F27 (ex_un (vx := (.bool false)) (v := (.bool true)) h28_27 rfl) fun a28 u28 F28 h29_28 => ?_
 change Code.wp _ _ _ _ _
 refine wp_cond_true h29_28 ?_
 refine rg_list ?_
 have h0_28 := u28.w (u27.w (u26.w (u25.w (u24.w h0_23))))
 refine wl_pq F28 (ex_mv h0_28) fun a29 u29 F29 h30_29 => ?_
 refine wl_pq F29 (ex_nil h30_29) fun a30 u30 F30 h31_30 => ?_
 refine wl_pq F30 (ex_fb 3 h31_30) fun a31 u31 F31 h32_31 => ?_
 refine wl_pq F31 (ex_le (v := (.int .u64 sq)) h32_31 (Bw_3.cell 3)) fun a32 u32 F32 h33_32 => ?_
 refine wl_pq F32 (ex_bin (vy := (.int .u64 1)) (v := (.int .u64 (sq + 1 : Nat))) h33_32 rfl (bo_add64 sq 1 (by omega) _)) fun a33 u33 F33 h34_33 => ?_
 have h30_33 := u33.w (u32.w (u31.w (u30.w h30_29)))
 refine wl_pq F33 (ex_nil h30_33) fun a34 u34 F34 h35_34 => ?_
 refine wl_pq F34 (ex_fb 3 h35_34) fun a35 u35 F35 h36_35 => ?_
 obtain ⟨w4, hr4, Bw_4, G4⟩ := st_run (T := 34) (o := 3) (v := (.int .u64 (sq + 1 : Nat))) (cs' := #[(.int .i64 p), (.int .i64 wr), (.int .i64 vr), (.int .u64 (sq + 1 : Nat)), (.int .i64 tg), (.bool false), (.bool i), (pto kp), (pto mp), sv2, nv2]) (fun _ => by kernel_rfl) Bw_3 rfl (Nat.le_of_ble_eq_true rfl) rfl
 have Q_4 := grown_trans Q_3 G4
 have sw_4 := sw_3.kt (Kt.of_blk Bw_3 G4) (by decide) (by decide) (by decide)
 have nw_4 := nw_3.kt (Kt.of_blk Bw_3 G4) (by decide)
 have sx_4 := sx_3.kt (Kt.of_blk Bw_3 G4) (by decide) (by decide) (by decide)
 have nx_4 := nx_3.kt (Kt.of_blk Bw_3 G4) (by decide)
 refine wl_n (ex_st h36_35 (u35.w (u34.w h34_33)) hr4) ?_
 clear Q_3 sw_3 nw_3 sx_3 nx_3
 change Code.wp _ _ _ _ _
 refine wp_sr ?_
 refine wl_pq F35 (ex_as (v := (.bool true)) rfl) fun a36 u36 F36 h2_36 => ?_
 change Code.wp _ _ _ _ _
 refine wp_ret ?_
 try simp only [Exit.then, Exit.inBlock]
 exact bodyPost_ret (v := (.bool true)) ((results_tmp rfl _ _ _).trans (by rw [h2_36])) F36.defers ⟨rfl, sv2, nv2, Bw_4, sx_4, nx_4, Q_4⟩
theorem take_nil {wb p wr vr sq tg : Nat} {c i : Bool} {kp mp : Option Nat} {sv nv : Value} {base : Nat} {segs : List SegD} {w0 : World} (Bw_0 : Blk w0 wb 51 #[.int .i64 p, .int .i64 wr, .int .i64 vr, .int .u64 sq, .int .i64 tg, .bool c, .bool i, pto kp, pto mp, sv, nv]) (sw_0 : SW w0 base sv segs) (hn : segs.length = 0) : Calls Tryd.prog 8 #[pt wb] w0 fun e w' => e = .returned (.bool false) ∧ w' = w0 := by
 refine calls_of_wp Tryd.func8 rfl ?_
 generalize hA : Act.mk _ _ = a0
 have F0 : Fz 37 a0 := by subst hA; exact ⟨by simp [Tryd.ntmps8], rfl⟩
 have h0_0 : a0.tmps.getD 0 undef = (.pointer (some ⟨wb, 0, none⟩)) := by subst hA; exact fr_arg rfl
 have Q_0 := grown_refl w0 (some wb)
 refine wp_sr ?_
 refine wl_pq F0 (ex_as (v := (.bool false)) rfl) fun a1 u1 F1 h2_1 => ?_
 change Code.wp _ _ _ _ _
 refine wp_seq ?_
 refine wp_sr ?_
 refine wl_pq F1 (ex_mv (u1.w h0_0)) fun a2 u2 F2 h3_2 => ?_
 refine wl_pq F2 (ex_nil h3_2) fun a3 u3 F3 h4_3 => ?_
 refine wl_pq F3 (ex_fb 9 h4_3) fun a4 u4 F4 h5_4 => ?_
 refine wl_pq F4 (ex_le (v := sv) h5_4 (Bw_0.cell 9)) fun a5 u5 F5 h6_5 => ?_
 refine wl_pq F5 (ex_bi (w' := w0) (args := #[sv]) (v := (.int .i64 segs.length)) (arg1 h6_5) (sw_0.len _)) fun a6 u6 F6 h7_6 => ?_
 refine wl_pq F6 (ex_bin (vy := (.int .i64 0)) (v := (.bool true)) h7_6 rfl ((bo_eqn segs.length 0 _).trans (by rw [decide_eq_true hn]))) fun a7 u7 F7 h8_7 => ?_
 change Code.wp _ _ _ _ _
 refine wp_cond_true h8_7 ?_
 refine wp_sr ?_
 refine wl_pq F7 (ex_as (v := (.bool false)) rfl) fun a8 u8 F8 h2_8 => ?_
 change Code.wp _ _ _ _ _
 refine wp_ret ?_
 try simp only [Exit.then, Exit.inBlock]
 exact bodyPost_ret (v := (.bool false)) ((results_tmp rfl _ _ _).trans (by rw [h2_8])) F8.defers ⟨rfl, rfl⟩
theorem NW.elem? {w : World} {base j m : Nat} {v : Value} {ns : List Nat} (h : NW w base v ns) (hm : ns[j]? = some m) : ∃ ad, (∀ w', (Instr.indexAt 49 v (.int .i64 j)).run Tryd.prog w' = .ok (.pointer (some ad)) w') ∧ w.cell? ad = some (.int .u64 m) := by
 obtain ⟨hj, rfl⟩ := List.getElem?_eq_some_iff.1 hm
 exact h.elem hj
theorem put_full {wb p wr vr sq tg : Nat} {c i : Bool} {kp mp : Option Nat} {sv nv : Value} {base : Nat} {kp2 mp2 : Option Nat} {s : SegD} {segs : List SegD} {ns : List Nat} {w0 : World} (hw : base ≤ w0.heap.size) (hb : base ≤ wb) (hl : segs.length ≤ 100) (hl2 : ns.length ≤ 100) (htg : tg ≤ 1000) (hse : s.e ≤ 1000) (hfull : segs.length = p) (Bw_0 : Blk w0 wb 51 #[.int .i64 p, .int .i64 wr, .int .i64 vr, .int .u64 sq, .int .i64 tg, .bool c, .bool i, pto kp, pto mp, sv, nv]) (sw_0 : SW w0 base sv segs) (nw_0 : NW w0 base nv ns) (ks_0 : SKey w0 kp2 s.key) (ms_0 : SMap w0 mp2 s.map) : Calls Tryd.prog 7 #[pt wb, .agg (ssegC s kp2 mp2)] w0 fun e w' => e = .returned (.bool false) ∧ Blk w' wb 51 #[.int .i64 p, .int .i64 wr, .int .i64 vr, .int .u64 sq, .int .i64 tg, .bool c, .bool i, pto kp, pto mp, sv, nv] ∧ SW w' base sv segs ∧ NW w' base nv ns ∧ Kt base DS w0 w' := by
 refine calls_of_wp Tryd.func7 rfl ?_
 generalize hA : Act.mk _ _ = a0
 have F0 : Fz 68 a0 := by subst hA; exact ⟨by simp [Tryd.ntmps7], rfl⟩
 have h0_0 : a0.tmps.getD 0 undef = (.pointer (some ⟨wb, 0, none⟩)) := by subst hA; exact fr_arg rfl
 have h1_0 : a0.tmps.getD 1 undef = (.agg #[(.string s.title), (.string s.uri), (.int .i64 s.e), (.int .i64 s.li), (.int .i64 s.off), (pto kp2), (pto mp2), (.bool s.disc), (.string s.date)]) := by subst hA; exact fr_arg rfl
 have K_0 := Kt.refl base DS w0
 refine wp_sr ?_
 obtain ⟨g3, hg3⟩ : ∃ g, w0.heap.size = g := ⟨_, rfl⟩
 have ne_w_3 : wb ≠ g3 := by have := Bw_0.lt; omega
 have hf3 := sw_0.far hg3
 obtain ⟨w1, hr1, B3_1, G1, hs1⟩ := al_run (op := Instr.box 32 (.agg #[(.string s.title), (.string s.uri), (.int .i64 s.e), (.int .i64 s.li), (.int .i64 s.off), (pto kp2), (pto mp2), (.bool s.disc), (.string s.date)])) (T := 32) (cs := #[(.string s.title), (.string s.uri), (.int .i64 s.e), (.int .i64 s.li), (.int .i64 s.off), (pto kp2), (pto mp2), (.bool s.disc), (.string s.date)]) hg3 (fun _ => by kernel_rfl)
 have Bw_1 := Bw_0.gn G1
 have K_1 := K_0.nw hw G1
 have sw_1 := sw_0.kt (Kt.of_none G1) (by decide) (by decide) (by decide)
 have nw_1 := nw_0.kt (Kt.of_none G1) (by decide)
 have ks_1 := ks_0.kt (Kt.of_none G1) (by decide)
 have ms_1 := ms_0.kt (Kt.of_none G1) (by decide)
 refine wl_pq F0 (ex_bx h1_0 hr1) fun a1 u1 F1 (h3_1 : a1.tmps.getD 3 undef = (.pointer (some ⟨g3, 0, none⟩))) => ?_
 clear K_0 sw_0 nw_0
 refine wl_pq F1 (ex_as (v := (.bool false)) rfl) fun a2 u2 F2 h4_2 => ?_
 change Code.wp _ _ _ _ _
 refine wp_sr ?_
 refine wl_pq F2 (ex_mv (u2.w (u1.w h0_0))) fun a3 u3 F3 h7_3 => ?_
 refine wl_pq F3 (ex_nil h7_3) fun a4 u4 F4 h8_4 => ?_
 refine wl_pq F4 (ex_fb 9 h8_4) fun a5 u5 F5 h9_5 => ?_
 refine wl_pq F5 (ex_le (v := sv) h9_5 (Bw_1.cell 9)) fun a6 u6 F6 h10_6 => ?_
 refine wl_pq F6 (ex_bi (w' := w1) (args := #[sv]) (v := (.int .i64 segs.length)) (arg1 h10_6) (sw_1.len _)) fun a7 u7 F7 h11_7 => ?_
 refine wl_pq F7 (ex_as h11_7) fun a8 u8 F8 h5_8 => ?_
 change Code.wp _ _ _ _ _
 refine wp_seq ?_
 refine wp_sr ?_
 refine wl_pq F8 (ex_mv h5_8) fun a9 u9 F9 h12_9 => ?_
 have h0_9 := u9.w (u8.w (u7.w (u6.w (u5.w (u4.w (u3.w (u2.w (u1.w h0_0))))))))
 refine wl_pq F9 (ex_mv h0_9) fun a10 u10 F10 h13_10 => ?_
 refine wl_pq F10 (ex_nil h13_10) fun a11 u11 F11 h14_11 => ?_
 refine wl_pq F11 (ex_fb 0 h14_11) fun a12 u12 F12 h15_12 => ?_
 refine wl_pq F12 (ex_le (v := (.int .i64 p)) h15_12 (Bw_1.cell 0)) fun a13 u13 F13 h16_13 => ?_
 have h12_13 := u13.w (u12.w (u11.w (u10.w h12_9)))
 refine wl_pq F13 (ex_bin (v := (.bool true)) h12_13 h16_13 ((bo_eqn segs.length p _).trans (by rw [decide_eq_true (by omega)]))) fun a14 u14 F14 h17_14 => ?_
 change Code.wp _ _ _ _ _
 refine wp_cond_true h17_14 ?_
 refine wp_sr ?_
 refine wl_pq F14 (ex_as (v := (.bool false)) rfl) fun a15 u15 F15 h4_15 => ?_
 change Code.wp _ _ _ _ _
 refine wp_ret ?_
 try simp only [Exit.then, Exit.inBlock]
 exact bodyPost_ret (v := (.bool false)) ((results_tmp rfl _ _ _).trans (by rw [h4_15])) F15.defers ⟨rfl, Bw_1, sw_1, nw_1, K_1⟩
theorem put_nil {wb p wr vr sq tg : Nat} {c i : Bool} {kp mp : Option Nat} {sv nv : Value} {base : Nat} {kp2 mp2 : Option Nat} {s : SegD} {segs : List SegD} {ns : List Nat} {w0 : World} (hw : base ≤ w0.heap.size) (hb : base ≤ wb) (hl : segs.length ≤ 100) (hl2 : ns.length ≤ 100) (htg : tg ≤ 1000) (hse : s.e ≤ 1000) (hfull : segs.length ≠ p) (hn0 : segs.length = 0) (Bw_0 : Blk w0 wb 51 #[.int .i64 p, .int .i64 wr, .int .i64 vr, .int .u64 sq, .int .i64 tg, .bool c, .bool i, pto kp, pto mp, sv, nv]) (sw_0 : SW w0 base sv segs) (nw_0 : NW w0 base nv ns) (ks_0 : SKey w0 kp2 s.key) (ms_0 : SMap w0 mp2 s.map) : Calls Tryd.prog 7 #[pt wb, .agg (ssegC s kp2 mp2)] w0 fun e w' => e = .returned (.bool true) ∧ ∃ sv2 nv2, Blk w' wb 51 #[.int .i64 p, .int .i64 wr, .int .i64 vr, .int .u64 sq, .int .i64 (if tg * 8 < s.e then (s.e + 7) / 8 else tg : Nat), .bool c, .bool i, pto kp, pto mp, sv2, nv2] ∧ SW w' base sv2 (segs ++ [s]) ∧ NW w' base nv2 (ns ++ [sq]) ∧ Kt base DS w0 w' := by
 refine calls_of_wp Tryd.func7 rfl ?_
 generalize hA : Act.mk _ _ = a0
 have F0 : Fz 68 a0 := by subst hA; exact ⟨by simp [Tryd.ntmps7], rfl⟩
 have h0_0 : a0.tmps.getD 0 undef = (.pointer (some ⟨wb, 0, none⟩)) := by subst hA; exact fr_arg rfl
 have h1_0 : a0.tmps.getD 1 undef = (.agg #[(.string s.title), (.string s.uri), (.int .i64 s.e), (.int .i64 s.li), (.int .i64 s.off), (pto kp2), (pto mp2), (.bool s.disc), (.string s.date)]) := by subst hA; exact fr_arg rfl
 have K_0 := Kt.refl base DS w0
 refine wp_sr ?_
 obtain ⟨g3, hg3⟩ : ∃ g, w0.heap.size = g := ⟨_, rfl⟩
 have ne_w_3 : wb ≠ g3 := by have := Bw_0.lt; omega
 have hf3 := sw_0.far hg3
 obtain ⟨w1, hr1, B3_1, G1, hs1⟩ := al_run (op := Instr.box 32 (.agg #[(.string s.title), (.string s.uri), (.int .i64 s.e), (.int .i64 s.li), (.int .i64 s.off), (pto kp2), (pto mp2), (.bool s.disc), (.string s.date)])) (T := 32) (cs := #[(.string s.title), (.string s.uri), (.int .i64 s.e), (.int .i64 s.li), (.int .i64 s.off), (pto kp2), (pto mp2), (.bool s.disc), (.string s.date)]) hg3 (fun _ => by kernel_rfl)
 have Bw_1 := Bw_0.gn G1
 have K_1 := K_0.nw hw G1
 have sw_1 := sw_0.kt (Kt.of_none G1) (by decide) (by decide) (by decide)
 have nw_1 := nw_0.kt (Kt.of_none G1) (by decide)
 have ks_1 := ks_0.kt (Kt.of_none G1) (by decide)
 have ms_1 := ms_0.kt (Kt.of_none G1) (by decide)
 refine wl_pq F0 (ex_bx h1_0 hr1) fun a1 u1 F1 (h3_1 : a1.tmps.getD 3 undef = (.pointer (some ⟨g3, 0, none⟩))) => ?_
 clear K_0 sw_0 nw_0
 refine wl_pq F1 (ex_as (v := (.bool false)) rfl) fun a2 u2 F2 h4_2 => ?_
 change Code.wp _ _ _ _ _
 refine wp_sr ?_
 refine wl_pq F2 (ex_mv (u2.w (u1.w h0_0))) fun a3 u3 F3 h7_3 => ?_
 refine wl_pq F3 (ex_nil h7_3) fun a4 u4 F4 h8_4 => ?_
 refine wl_pq F4 (ex_fb 9 h8_4) fun a5 u5 F5 h9_5 => ?_
 refine wl_pq F5 (ex_le (v := sv) h9_5 (Bw_1.cell 9)) fun a6 u6 F6 h10_6 => ?_
 refine wl_pq F6 (ex_bi (w' := w1) (args := #[sv]) (v := (.int .i64 segs.length)) (arg1 h10_6) (sw_1.len _)) fun a7 u7 F7 h11_7 => ?_
 refine wl_pq F7 (ex_as h11_7) fun a8 u8 F8 h5_8 => ?_
 change Code.wp _ _ _ _ _
 refine wp_seq ?_
 refine wp_sr ?_
 refine wl_pq F8 (ex_mv h5_8) fun a9 u9 F9 h12_9 => ?_
 have h0_9 := u9.w (u8.w (u7.w (u6.w (u5.w (u4.w (u3.w (u2.w (u1.w h0_0))))))))
 refine wl_pq F9 (ex_mv h0_9) fun a10 u10 F10 h13_10 => ?_
 refine wl_pq F10 (ex_nil h13_10) fun a11 u11 F11 h14_11 => ?_
 refine wl_pq F11 (ex_fb 0 h14_11) fun a12 u12 F12 h15_12 => ?_
 refine wl_pq F12 (ex_le (v := (.int .i64 p)) h15_12 (Bw_1.cell 0)) fun a13 u13 F13 h16_13 => ?_
 have h12_13 := u13.w (u12.w (u11.w (u10.w h12_9)))
 refine wl_pq F13 (ex_bin (v := (.bool false)) h12_13 h16_13 ((bo_eqn segs.length p _).trans (by rw [decide_eq_false (by omega)]))) fun a14 u14 F14 h17_14 => ?_
 change Code.wp _ _ _ _ _
 refine wp_cond_false h17_14 ?_
 refine wp_skip ?_
 change Code.wp _ _ _ _ _
 refine wp_sr ?_
 have h0_14 := u14.w (u13.w (u12.w (u11.w (u10.w h0_9))))
 refine wl_pq F14 (ex_mv h0_14) fun a15 u15 F15 h18_15 => ?_
 refine wl_pq F15 (ex_nil h18_15) fun a16 u16 F16 h19_16 => ?_
 refine wl_pq F16 (ex_fb 3 h19_16) fun a17 u17 F17 h20_17 => ?_
 refine wl_pq F17 (ex_le (v := (.int .u64 sq)) h20_17 (Bw_1.cell 3)) fun a18 u18 F18 h21_18 => ?_
 refine wl_pq F18 (ex_as h21_18) fun a19 u19 F19 h6_19 => ?_
 change Code.wp _ _ _ _ _
 refine wp_seq ?_
 refine wp_sr ?_
 have h5_19 := u19.w (u18.w (u17.w (u16.w (u15.w (u14.w (u13.w (u12.w (u11.w (u10.w (u9.w h5_8))))))))))
 refine wl_pq F19 (ex_mv h5_19) fun a20 u20 F20 h22_20 => ?_
 refine wl_pq F20 (ex_bin (vy := (.int .i64 0)) (v := (.bool false)) h22_20 rfl ((bo_gtn segs.length 0 _).trans (by rw [decide_eq_false (by omega)]))) fun a21 u21 F21 h23_21 => ?_
 change Code.wp _ _ _ _ _
 refine wp_cond_false h23_21 ?_
 refine wp_skip ?_
 change Code.wp _ _ _ _ _
 refine wp_seq ?_
 obtain ⟨w2, hw2⟩ : ∃ w, w = w1.drew := ⟨_, rfl⟩
 have G2 : w1.grownBy w2 none := hw2 ▸ grown_drew _
 have Bw_2 := Bw_1.gn G2
 have B3_2 := B3_1.gn G2
 have K_2 := K_1.nw hw G2
 have sw_2 := sw_1.kt (Kt.of_none G2) (by decide) (by decide) (by decide)
 have nw_2 := nw_1.kt (Kt.of_none G2) (by decide)
 have ks_2 := ks_1.kt (Kt.of_none G2) (by decide)
 have ms_2 := ms_1.kt (Kt.of_none G2) (by decide)
 refine rg_ltree 18 22 (fun w' => Blk w' wb 51 #[(.int .i64 p), (.int .i64 wr), (.int .i64 vr), (.int .u64 sq), (.int .i64 tg), (.bool c), (.bool i), (pto kp), (pto mp), sv, nv] ∧ Blk w' g3 32 #[(.string s.title), (.string s.uri), (.int .i64 s.e), (.int .i64 s.li), (.int .i64 s.off), (pto kp2), (pto mp2), (.bool s.disc), (.string s.date)]) hw2 hmix rfl ?_
 clear K_1 sw_1 nw_1
 have h0_21 := u21.w (u20.w (u19.w (u18.w (u17.w (u16.w (u15.w h0_14))))))
 refine ltree_free (j := 0) rfl (by kernel_rfl) (by kernel_rfl) (by kernel_rfl) (by decide) (fun w => ex_mv (v := (.pointer (some ⟨wb, 0, none⟩))) h0_21) (.inr ⟨Bw_2, B3_2⟩) F21.l fun a22 u22 (h33_22 : a22.tmps.getD 33 undef = (.pointer (some ⟨wb, 0, none⟩))) => ?_
 have F22 := F21.pt u22
 refine ltree_free (j := 1) rfl (by kernel_rfl) (by kernel_rfl) (by kernel_rfl) (by decide) (fun w => ex_mv (v := (.pointer (some ⟨wb, 0, none⟩))) (u22.w h0_21)) (.inr ⟨Bw_2, B3_2⟩) F22.l fun a23 u23 (h34_23 : a23.tmps.getD 34 undef = (.pointer (some ⟨wb, 0, none⟩))) => ?_
 have F23 := F22.pt u23
 refine ltree_free (j := 2) rfl (by kernel_rfl) (by kernel_rfl) (by kernel_rfl) (by decide) (fun w => ex_mv (v := (.pointer (some ⟨wb, 0, none⟩))) (u23.w (u22.w h0_21))) (.inr ⟨Bw_2, B3_2⟩) F23.l fun a24 u24 (h35_24 : a24.tmps.getD 35 undef = (.pointer (some ⟨wb, 0, none⟩))) => ?_
 have F24 := F23.pt u24
 refine ltree_free (j := 3) rfl (by kernel_rfl) (by kernel_rfl) (by kernel_rfl) (by decide) (fun w => ex_nil (ad := ⟨wb, 0, none⟩) h35_24) (.inr ⟨Bw_2, B3_2⟩) F24.l fun a25 u25 (h36_25 : a25.tmps.getD 36 undef = (.pointer (some ⟨wb, 0, none⟩))) => ?_
 have F25 := F24.pt u25
 refine ltree_free (j := 4) rfl (by kernel_rfl) (by kernel_rfl) (by kernel_rfl) (by decide) (fun w => ex_fa (T := 51) (f := 9) (k := 9) (b := wb) (fun _ _ => by kernel_rfl) h36_25) (.inr ⟨Bw_2, B3_2⟩) F25.l fun a26 u26 (h37_26 : a26.tmps.getD 37 undef = (.pointer (some ⟨wb, 9, none⟩))) => ?_
 have F26 := F25.pt u26
 refine ltree_take (j := 5) rfl (by kernel_rfl) (by kernel_rfl) (by kernel_rfl) (by kernel_rfl) (by decide) (by kernel_rfl) (fun w hw => ex_le (v := sv) h37_26 (hw.1.cell 9)) (⟨Bw_2, B3_2⟩) F26.l fun a27 u27 h38_27 => ?_
 have F27 := F26.pt u27
 have h3_27 := u27.w (u26.w (u25.w (u24.w (u23.w (u22.w (u21.w (u20.w (u19.w (u18.w (u17.w (u16.w (u15.w (u14.w (u13.w (u12.w (u11.w (u10.w (u9.w (u8.w (u7.w (u6.w (u5.w (u4.w (u3.w (u2.w h3_1)))))))))))))))))))))))))
 refine ltree_take (j := 6) rfl (by kernel_rfl) (by kernel_rfl) (by kernel_rfl) (by kernel_rfl) (by decide) (by kernel_rfl) (fun w hw => ex_lda h3_27 (ld_agg (n := 9) (xs := #[(.string s.title), (.string s.uri), (.int .i64 s.e), (.int .i64 s.li), (.int .i64 s.off), (pto kp2), (pto mp2), (.bool s.disc), (.string s.date)]) (fun _ => by kernel_rfl) (fun _ => by kernel_rfl) hw.2 rfl (fun _ _ => by rw [Nat.zero_add] <;> rfl))) (⟨Bw_2, B3_2⟩) F27.l fun a28 u28 (h39_28 : a28.tmps.getD 39 undef = (.agg #[(.string s.title), (.string s.uri), (.int .i64 s.e), (.int .i64 s.li), (.int .i64 s.off), (pto kp2), (pto mp2), (.bool s.disc), (.string s.date)])) => ?_
 have F28 := F27.pt u28
 have h0_28 := u28.w (u27.w (u26.w (u25.w (u24.w (u23.w (u22.w h0_21))))))
 refine ltree_free (j := 9) rfl (by kernel_rfl) (by kernel_rfl) (by kernel_rfl) (by decide) (fun w => ex_mv (v := (.pointer (some ⟨wb, 0, none⟩))) h0_28) (.inr ⟨Bw_2, B3_2⟩) F28.l fun a29 u29 (h42_29 : a29.tmps.getD 42 undef = (.pointer (some ⟨wb, 0, none⟩))) => ?_
 have F29 := F28.pt u29
 refine ltree_free (j := 10) rfl (by kernel_rfl) (by kernel_rfl) (by kernel_rfl) (by decide) (fun w => ex_nil (ad := ⟨wb, 0, none⟩) h42_29) (.inr ⟨Bw_2, B3_2⟩) F29.l fun a30 u30 (h43_30 : a30.tmps.getD 43 undef = (.pointer (some ⟨wb, 0, none⟩))) => ?_
 have F30 := F29.pt u30
 refine ltree_free (j := 11) rfl (by kernel_rfl) (by kernel_rfl) (by kernel_rfl) (by decide) (fun w => ex_fa (T := 51) (f := 10) (k := 10) (b := wb) (fun _ _ => by kernel_rfl) h43_30) (.inr ⟨Bw_2, B3_2⟩) F30.l fun a31 u31 (h44_31 : a31.tmps.getD 44 undef = (.pointer (some ⟨wb, 10, none⟩))) => ?_
 have F31 := F30.pt u31
 refine ltree_take (j := 12) rfl (by kernel_rfl) (by kernel_rfl) (by kernel_rfl) (by kernel_rfl) (by decide) (by kernel_rfl) (fun w hw => ex_le (v := nv) h44_31 (hw.1.cell 10)) (⟨Bw_2, B3_2⟩) F31.l fun a32 u32 h45_32 => ?_
 have F32 := F31.pt u32
 have h6_32 := u32.w (u31.w (u30.w (u29.w (u28.w (u27.w (u26.w (u25.w (u24.w (u23.w (u22.w (u21.w (u20.w h6_19))))))))))))
 refine ltree_free (j := 13) rfl (by kernel_rfl) (by kernel_rfl) (by kernel_rfl) (by decide) (fun w => ex_mv (v := (.int .u64 sq)) h6_32) (.inr ⟨Bw_2, B3_2⟩) F32.l fun a33 u33 (h46_33 : a33.tmps.getD 46 undef = (.int .u64 sq)) => ?_
 have F33 := F32.pt u33
 refine ltree2 (j := 7) (k := 14) (by kernel_rfl) ?_ ?_
 · obtain ⟨gA, hgA⟩ : ∃ g, w2.heap.size = g := ⟨_, rfl⟩
   have ne_w_A : wb ≠ gA := by have := Bw_2.lt; omega
   have ne_3_A : g3 ≠ gA := by have := B3_2.lt; omega
   obtain ⟨w3, hr3, BA_3, G3, hs3⟩ := bs_run (op := Instr.buildSlice 48 1 #[(0, (.agg #[(.string s.title), (.string s.uri), (.int .i64 s.e), (.int .i64 s.li), (.int .i64 s.off), (pto kp2), (pto mp2), (.bool s.disc), (.string s.date)]))]) (n := 1) (T := 32) (cs := #[(.string s.title), (.string s.uri), (.int .i64 s.e), (.int .i64 s.li), (.int .i64 s.off), (pto kp2), (pto mp2), (.bool s.disc), (.string s.date)]) hgA (fun _ => by kernel_rfl)
   have Bw_3 := Bw_2.gn G3
   have B3_3 := B3_2.gn G3
   have K_3 := K_2.nw hw G3
   have sw_3 := sw_2.kt (Kt.of_none G3) (by decide) (by decide) (by decide)
   have nw_3 := nw_2.kt (Kt.of_none G3) (by decide)
   have ks_3 := ks_2.kt (Kt.of_none G3) (by decide)
   have ms_3 := ms_2.kt (Kt.of_none G3) (by decide)
   have h39_33 := u33.w (u32.w (u31.w (u30.w (u29.w h39_28))))
   refine tkl_p rfl (ex_bs (vs := #[(0, (.agg #[(.string s.title), (.string s.uri), (.int .i64 s.e), (.int .i64 s.li), (.int .i64 s.off), (pto kp2), (pto mp2), (.bool s.disc), (.string s.date)]))]) (by have e0 : a33.eval (.tmp 39) = (.agg #[(.string s.title), (.string s.uri), (.int .i64 s.e), (.int .i64 s.li), (.int .i64 s.off), (pto kp2), (pto mp2), (.bool s.disc), (.string s.date)]) := h39_33; simp only [List.map_toArray, List.map_cons, List.map_nil, e0]) hr3) (.inr ⟨Bw_3, B3_3⟩) F33.l fun a34 u34 (h40_34 : a34.tmps.getD 40 undef = (.slice (some ⟨gA, 0, none⟩) 1 1)) => ?_
   have F34 := F33.pt u34
   clear K_2 sw_2 nw_2 hgA
   refine ltree2 (j := 8) (k := 14) (by kernel_rfl) ?_ ?_
   · obtain ⟨v4, w4, hr4, sw_4, G4⟩ := sw_3.push (s := s) (kp := kp2) (mp := mp2) (ty := 48) (c := 1) BA_3 ks_3 ms_3 (K_3.le hw) (by omega)
     have KR4 := sw_3.ktof G4
     have Bw_4 := Bw_3.kt KR4 (by decide)
     have B3_4 := B3_3.grown G4 hf3
     have K_4 := sw_3.ktr K_3 hw (Nat.le_refl _) (by decide) G4
     have nw_4 := nw_3.kt KR4 (by decide)
     have ks_4 := ks_3.kt KR4 (by decide)
     have ms_4 := ms_3.kt KR4 (by decide)
     have h38_34 := u34.w (u33.w (u32.w (u31.w (u30.w (u29.w (u28.w h38_27))))))
     refine tkl_p rfl (ex_app h38_34 h40_34 hr4) (.inr ⟨Bw_4, B3_4⟩) F34.l fun a35 u35 (h41_35 : a35.tmps.getD 41 undef = v4) => ?_
     have F35 := F34.pt u35
     clear KR4 K_3 sw_3 nw_3
     refine ltree1 (j := 14) (by kernel_rfl) ?_
     obtain ⟨gB, hgB⟩ : ∃ g, w4.heap.size = g := ⟨_, rfl⟩
     have ne_w_B : wb ≠ gB := by have := Bw_4.lt; omega
     have ne_3_B : g3 ≠ gB := by have := B3_4.lt; omega
     obtain ⟨w5, hr5, BB_5, G5, hs5⟩ := bs_run (op := Instr.buildSlice 49 1 #[(0, (.int .u64 sq))]) (n := 1) (T := 34) (cs := #[(.int .u64 sq)]) hgB (fun _ => by kernel_rfl)
     have Bw_5 := Bw_4.gn G5
     have B3_5 := B3_4.gn G5
     have K_5 := K_4.nw hw G5
     have sw_5 := sw_4.kt (Kt.of_none G5) (by decide) (by decide) (by decide)
     have nw_5 := nw_4.kt (Kt.of_none G5) (by decide)
     have ks_5 := ks_4.kt (Kt.of_none G5) (by decide)
     have ms_5 := ms_4.kt (Kt.of_none G5) (by decide)
     refine tkl_p rfl (ex_bs (vs := #[(0, (.int .u64 sq))]) (by have e0 : a35.eval (.tmp 46) = (.int .u64 sq) := (u35.w (u34.w h46_33)); simp only [List.map_toArray, List.map_cons, List.map_nil, e0]) hr5) (.inr ⟨Bw_5, B3_5⟩) F35.l fun a36 u36 (h47_36 : a36.tmps.getD 47 undef = (.slice (some ⟨gB, 0, none⟩) 1 1)) => ?_
     have F36 := F35.pt u36
     clear K_4 sw_4 nw_4 hgB
     refine ltree1 (j := 15) (by kernel_rfl) ?_
     obtain ⟨v6, w6, hr6, nw_6, G6⟩ := nw_5.push (m := sq) (ty := 49) (c := 1) BB_5 (K_5.le hw) (by omega)
     have KR6 := nw_5.ktof G6
     have Bw_6 := Bw_5.kt KR6 (by decide)
     have B3_6 := B3_5.kt KR6 (by decide)
     have K_6 := nw_5.ktr K_5 hw (Nat.le_refl _) (by decide) G6
     have sw_6 := sw_5.kt KR6 (by decide) (by decide) (by decide)
     have ks_6 := ks_5.kt KR6 (by decide)
     have ms_6 := ms_5.kt KR6 (by decide)
     have h45_36 := u36.w (u35.w (u34.w (u33.w h45_32)))
     refine tkl_p rfl (ex_app h45_36 h47_36 hr6) (.inr ⟨Bw_6, B3_6⟩) F36.l fun a37 u37 (h48_37 : a37.tmps.getD 48 undef = v6) => ?_
     have F37 := F36.pt u37
     clear KR6 K_5 sw_5 nw_5
     have h33_37 := u37.w (u36.w (u35.w (u34.w (u33.w (u32.w (u31.w (u30.w (u29.w (u28.w (u27.w (u26.w (u25.w (u24.w (u23.w h33_22))))))))))))))
     refine ltree_free (j := 16) rfl (by kernel_rfl) (by kernel_rfl) (by kernel_rfl) (by decide) (fun w => ex_nil (ad := ⟨wb, 0, none⟩) h33_37) (.inr ⟨Bw_6, B3_6⟩) F37.l fun a38 u38 (h49_38 : a38.tmps.getD 49 undef = (.pointer (some ⟨wb, 0, none⟩))) => ?_
     have F38 := F37.pt u38
     refine ltree_free (j := 17) rfl (by kernel_rfl) (by kernel_rfl) (by kernel_rfl) (by decide) (fun w => ex_fa (T := 51) (f := 9) (k := 9) (b := wb) (fun _ _ => by kernel_rfl) h49_38) (.inr ⟨Bw_6, B3_6⟩) F38.l fun a39 u39 (h50_39 : a39.tmps.getD 50 undef = (.pointer (some ⟨wb, 9, none⟩))) => ?_
     have F39 := F38.pt u39
     refine ltree1 (j := 18) (by kernel_rfl) ?_
     obtain ⟨w7, hr7, Bw_7, G7⟩ := st_run (T := 48) (o := 9) (v := v4) (cs' := #[(.int .i64 p), (.int .i64 wr), (.int .i64 vr), (.int .u64 sq), (.int .i64 tg), (.bool c), (.bool i), (pto kp), (pto mp), v4, nv]) (fun _ => by kernel_rfl) Bw_6 sw_6.one (by simp) rfl
     have B3_7 := B3_6.gk G7 (Ne.symm ne_w_3)
     have K_7 := K_6.blk hw Bw_6 hb (by decide) G7
     have sw_7 := sw_6.kt (Kt.of_blk Bw_6 G7) (by decide) (by decide) (by decide)
     have nw_7 := nw_6.kt (Kt.of_blk Bw_6 G7) (by decide)
     have ks_7 := ks_6.kt (Kt.of_blk Bw_6 G7) (by decide)
     have ms_7 := ms_6.kt (Kt.of_blk Bw_6 G7) (by decide)
     have h41_39 := u39.w (u38.w (u37.w (u36.w h41_35)))
     refine tkl_n rfl (ex_st h50_39 h41_39 hr7) (.inl (by kernel_rfl)) ?_
     clear K_6 sw_6 nw_6
     have h34_39 := u39.w (u38.w (u37.w (u36.w (u35.w (u34.w (u33.w (u32.w (u31.w (u30.w (u29.w (u28.w (u27.w (u26.w (u25.w (u24.w h34_23)))))))))))))))
     refine ltree_free (j := 19) rfl (by kernel_rfl) (by kernel_rfl) (by kernel_rfl) (by decide) (fun w => ex_nil (ad := ⟨wb, 0, none⟩) h34_39) (.inl (by kernel_rfl)) F39.l fun a40 u40 (h51_40 : a40.tmps.getD 51 undef = (.pointer (some ⟨wb, 0, none⟩))) => ?_
     have F40 := F39.pt u40
     refine ltree_free (j := 20) rfl (by kernel_rfl) (by kernel_rfl) (by kernel_rfl) (by decide) (fun w => ex_fa (T := 51) (f := 10) (k := 10) (b := wb) (fun _ _ => by kernel_rfl) h51_40) (.inl (by kernel_rfl)) F40.l fun a41 u41 (h52_41 : a41.tmps.getD 52 undef = (.pointer (some ⟨wb, 10, none⟩))) => ?_
     have F41 := F40.pt u41
     refine ltree1 (j := 21) (by kernel_rfl) ?_
     obtain ⟨w8, hr8, Bw_8, G8⟩ := st_run (T := 49) (o := 10) (v := v6) (cs' := #[(.int .i64 p), (.int .i64 wr), (.int .i64 vr), (.int .u64 sq), (.int .i64 tg), (.bool c), (.bool i), (pto kp), (pto mp), v4, v6]) (fun _ => by kernel_rfl) Bw_7 nw_7.one (by simp) rfl
     have B3_8 := B3_7.gk G8 (Ne.symm ne_w_3)
     have K_8 := K_7.blk hw Bw_7 hb (by decide) G8
     have sw_8 := sw_7.kt (Kt.of_blk Bw_7 G8) (by decide) (by decide) (by decide)
     have nw_8 := nw_7.kt (Kt.of_blk Bw_7 G8) (by decide)
     have ks_8 := ks_7.kt (Kt.of_blk Bw_7 G8) (by decide)
     have ms_8 := ms_7.kt (Kt.of_blk Bw_7 G8) (by decide)
     have h48_41 := u41.w (u40.w (u39.w (u38.w h48_37)))
     refine tkl_n rfl (ex_st h52_41 h48_41 hr8) (.inl (by kernel_rfl)) ?_
     clear K_7 sw_7 nw_7
     refine ltree0 (by kernel_rfl) ?_
     change Code.wp _ _ _ _ _
     refine wp_seq ?_
     refine wp_seq ?_
     obtain ⟨w9, hw9⟩ : ∃ w, w = w8.drew := ⟨_, rfl⟩
     have G9 : w8.grownBy w9 none := hw9 ▸ grown_drew _
     have Bw_9 := Bw_8.gn G9
     have B3_9 := B3_8.gn G9
     have K_9 := K_8.nw hw G9
     have sw_9 := sw_8.kt (Kt.of_none G9) (by decide) (by decide) (by decide)
     have nw_9 := nw_8.kt (Kt.of_none G9) (by decide)
     have ks_9 := ks_8.kt (Kt.of_none G9) (by decide)
     have ms_9 := ms_8.kt (Kt.of_none G9) (by decide)
     refine rg_still hw9 hmix (by kernel_rfl) ?_
     clear K_8 sw_8 nw_8
     have h0_41 := u41.w (u40.w (u39.w (u38.w (u37.w (u36.w (u35.w (u34.w (u33.w (u32.w (u31.w (u30.w (u29.w h0_28))))))))))))
     refine st_pq F41 (ex_mv h0_41) fun a42 u42 F42 h53_42 => ?_
     refine st_pq F42 (ex_nil h53_42) fun a43 u43 F43 h54_43 => ?_
     refine st_pq F43 (ex_fb 4 h54_43) fun a44 u44 F44 h55_44 => ?_
     refine st_pq F44 (ex_le (v := (.int .i64 tg)) h55_44 (Bw_9.cell 4)) fun a45 u45 F45 h56_45 => ?_
     refine st_pq F45 (ex_bin (vy := (.int .i64 8)) (v := (.int .i64 (tg * 8 : Nat))) h56_45 rfl (bo_mul8 tg (by omega) _)) fun a46 u46 F46 h57_46 => ?_
     have h3_46 := u46.w (u45.w (u44.w (u43.w (u42.w (u41.w (u40.w (u39.w (u38.w (u37.w (u36.w (u35.w (u34.w (u33.w (u32.w (u31.w (u30.w (u29.w (u28.w h3_27))))))))))))))))))
     refine st_pq F46 (ex_fb 2 h3_46) fun a47 u47 F47 h58_47 => ?_
     refine st_pq F47 (ex_le (v := (.int .i64 s.e)) h58_47 (B3_9.cell 2)) fun a48 u48 F48 h59_48 => ?_
     refine st_pq F48 (ex_bin (v := (.bool (decide (tg * 8 < s.e)))) (u48.w (u47.w h57_46)) h59_48 (bo_ltn (tg * 8) s.e _)) fun a49 u49 F49 h60_49 => ?_
     change Code.wp _ _ _ _ _
     by_cases hq : tg * 8 < s.e
     · refine wp_cond_true (h60_49.trans (by rw [decide_eq_true hq])) ?_
       refine rg_list ?_
       have h0_49 := u49.w (u48.w (u47.w (u46.w (u45.w (u44.w (u43.w (u42.w h0_41)))))))
       refine wl_pq F49 (ex_mv h0_49) fun a50 u50 F50 h61_50 => ?_
       have h3_50 := u50.w (u49.w (u48.w (u47.w h3_46)))
       refine wl_pq F50 (ex_fb 2 h3_50) fun a51 u51 F51 h62_51 => ?_
       refine wl_pq F51 (ex_le (v := (.int .i64 s.e)) h62_51 (B3_9.cell 2)) fun a52 u52 F52 h63_52 => ?_
       refine wl_pq F52 (ex_bin (vy := (.int .i64 7)) (v := (.int .i64 (s.e + 7 : Nat))) h63_52 rfl (bo_addn s.e 7 (by omega) _)) fun a53 u53 F53 h64_53 => ?_
       refine wl_pq F53 (ex_bin (vy := (.int .i64 8)) (v := (.int .i64 ((s.e + 7) / 8 : Nat))) h64_53 rfl (bo_quo_8 (s.e + 7) (by omega) _)) fun a54 u54 F54 h65_54 => ?_
       have h61_54 := u54.w (u53.w (u52.w (u51.w h61_50)))
       refine wl_pq F54 (ex_nil h61_54) fun a55 u55 F55 h66_55 => ?_
       refine wl_pq F55 (ex_fb 4 h66_55) fun a56 u56 F56 h67_56 => ?_
       obtain ⟨w10, hr10, Bw_10, G10⟩ := st_run (T := 3) (o := 4) (v := (.int .i64 ((s.e + 7) / 8 : Nat))) (cs' := #[(.int .i64 p), (.int .i64 wr), (.int .i64 vr), (.int .u64 sq), (.int .i64 ((s.e + 7) / 8 : Nat)), (.bool c), (.bool i), (pto kp), (pto mp), v4, v6]) (fun _ => by kernel_rfl) Bw_9 rfl (Nat.le_of_ble_eq_true rfl) rfl
       have B3_10 := B3_9.gk G10 (Ne.symm ne_w_3)
       have K_10 := K_9.blk hw Bw_9 hb (by decide) G10
       have sw_10 := sw_9.kt (Kt.of_blk Bw_9 G10) (by decide) (by decide) (by decide)
       have nw_10 := nw_9.kt (Kt.of_blk Bw_9 G10) (by decide)
       have ks_10 := ks_9.kt (Kt.of_blk Bw_9 G10) (by decide)
       have ms_10 := ms_9.kt (Kt.of_blk Bw_9 G10) (by decide)
       refine wl_n (ex_st h67_56 (u56.w (u55.w h65_54)) hr10) ?_
       clear K_9 sw_9 nw_9
       change Code.wp _ _ _ _ _
       refine wp_sr ?_
       refine wl_pq F56 (ex_as (v := (.bool true)) rfl) fun a57 u57 F57 h4_57 => ?_
       change Code.wp _ _ _ _ _
       refine wp_ret ?_
       try simp only [Exit.then, Exit.inBlock]
       exact bodyPost_ret (v := (.bool true)) ((results_tmp rfl _ _ _).trans (by rw [h4_57])) F57.defers ⟨rfl, _, _, (by rw [if_pos hq]; exact Bw_10), sw_10, nw_10, K_10⟩
     · refine wp_cond_false (h60_49.trans (by rw [decide_eq_false hq])) ?_
       refine wp_skip ?_
       change Code.wp _ _ _ _ _
       refine wp_sr ?_
       refine wl_pq F49 (ex_as (v := (.bool true)) rfl) fun a50 u50 F50 h4_50 => ?_
       change Code.wp _ _ _ _ _
       refine wp_ret ?_
       try simp only [Exit.then, Exit.inBlock]
       exact bodyPost_ret (v := (.bool true)) ((results_tmp rfl _ _ _).trans (by rw [h4_50])) F50.defers ⟨rfl, _, _, (by rw [if_neg hq]; exact Bw_9), sw_9, nw_9, K_9⟩
   · obtain ⟨gB, hgB⟩ : ∃ g, w3.heap.size = g := ⟨_, rfl⟩
     have ne_w_B : wb ≠ gB := by have := Bw_3.lt; omega
     have ne_3_B : g3 ≠ gB := by have := B3_3.lt; omega
     have ne_A_B : gA ≠ gB := by have := BA_3.lt; omega
     obtain ⟨w4, hr4, BB_4, G4, hs4⟩ := bs_run (op := Instr.buildSlice 49 1 #[(0, (.int .u64 sq))]) (n := 1) (T := 34) (cs := #[(.int .u64 sq)]) hgB (fun _ => by kernel_rfl)
     have Bw_4 := Bw_3.gn G4
     have B3_4 := B3_3.gn G4
     have BA_4 := BA_3.gn G4
     have K_4 := K_3.nw hw G4
     have sw_4 := sw_3.kt (Kt.of_none G4) (by decide) (by decide) (by decide)
     have nw_4 := nw_3.kt (Kt.of_none G4) (by decide)
     have ks_4 := ks_3.kt (Kt.of_none G4) (by decide)
     have ms_4 := ms_3.kt (Kt.of_none G4) (by decide)
     refine tkl_p rfl (ex_bs (vs := #[(0, (.int .u64 sq))]) (by have e0 : a34.eval (.tmp 46) = (.int .u64 sq) := (u34.w h46_33); simp only [List.map_toArray, List.map_cons, List.map_nil, e0]) hr4) (.inr ⟨Bw_4, B3_4⟩) F34.l fun a35 u35 (h47_35 : a35.tmps.getD 47 undef = (.slice (some ⟨gB, 0, none⟩) 1 1)) => ?_
     have F35 := F34.pt u35
     clear K_3 sw_3 nw_3 hgB
     refine ltree1 (j := 8) (by kernel_rfl) ?_
     obtain ⟨v5, w5, hr5, sw_5, G5⟩ := sw_4.push (s := s) (kp := kp2) (mp := mp2) (ty := 48) (c := 1) BA_4 ks_4 ms_4 (K_4.le hw) (by omega)
     have KR5 := sw_4.ktof G5
     have Bw_5 := Bw_4.kt KR5 (by decide)
     have B3_5 := B3_4.grown G5 hf3
     have BB_5 := BB_4.kt KR5 (by decide)
     have K_5 := sw_4.ktr K_4 hw (Nat.le_refl _) (by decide) G5
     have nw_5 := nw_4.kt KR5 (by decide)
     have ks_5 := ks_4.kt KR5 (by decide)
     have ms_5 := ms_4.kt KR5 (by decide)
     have h38_35 := u35.w (u34.w (u33.w (u32.w (u31.w (u30.w (u29.w (u28.w h38_27)))))))
     refine tkl_p rfl (ex_app h38_35 (u35.w h40_34) hr5) (.inr ⟨Bw_5, B3_5⟩) F35.l fun a36 u36 (h41_36 : a36.tmps.getD 41 undef = v5) => ?_
     have F36 := F35.pt u36
     clear KR5 K_4 sw_4 nw_4
     refine ltree1 (j := 15) (by kernel_rfl) ?_
     obtain ⟨v6, w6, hr6, nw_6, G6⟩ := nw_5.push (m := sq) (ty := 49) (c := 1) BB_5 (K_5.le hw) (by omega)
     have KR6 := nw_5.ktof G6
     have Bw_6 := Bw_5.kt KR6 (by decide)
     have B3_6 := B3_5.kt KR6 (by decide)
     have K_6 := nw_5.ktr K_5 hw (Nat.le_refl _) (by decide) G6
     have sw_6 := sw_5.kt KR6 (by decide) (by decide) (by decide)
     have ks_6 := ks_5.kt KR6 (by decide)
     have ms_6 := ms_5.kt KR6 (by decide)
     have h45_36 := u36.w (u35.w (u34.w (u33.w h45_32)))
     refine tkl_p rfl (ex_app h45_36 (u36.w h47_35) hr6) (.inr ⟨Bw_6, B3_6⟩) F36.l fun a37 u37 (h48_37 : a37.tmps.getD 48 undef = v6) => ?_
     have F37 := F36.pt u37
     clear KR6 K_5 sw_5 nw_5
     have h33_37 := u37.w (u36.w (u35.w (u34.w (u33.w (u32.w (u31.w (u30.w (u29.w (u28.w (u27.w (u26.w (u25.w (u24.w (u23.w h33_22))))))))))))))
     refine ltree_free (j := 16) rfl (by kernel_rfl) (by kernel_rfl) (by kernel_rfl) (by decide) (fun w => ex_nil (ad := ⟨wb, 0, none⟩) h33_37) (.inr ⟨Bw_6, B3_6⟩) F37.l fun a38 u38 (h49_38 : a38.tmps.getD 49 undef = (.pointer (some ⟨wb, 0, none⟩))) => ?_
     have F38 := F37.pt u38
     refine ltree_free (j := 17) rfl (by kernel_rfl) (by kernel_rfl) (by kernel_rfl) (by decide) (fun w => ex_fa (T := 51) (f := 9) (k := 9) (b := wb) (fun _ _ => by kernel_rfl) h49_38) (.inr ⟨Bw_6, B3_6⟩) F38.l fun a39 u39 (h50_39 : a39.tmps.getD 50 undef = (.pointer (some ⟨wb, 9, none⟩))) => ?_
     have F39 := F38.pt u39
     refine ltree1 (j := 18) (by kernel_rfl) ?_
     obtain ⟨w7, hr7, Bw_7, G7⟩ := st_run (T := 48) (o := 9) (v := v5) (cs' := #[(.int .i64 p), (.int .i64 wr), (.int .i64 vr), (.int .u64 sq), (.int .i64 tg), (.bool c), (.bool i), (pto kp), (pto mp), v5, nv]) (fun _ => by kernel_rfl) Bw_6 sw_6.one (by simp) rfl
     have B3_7 := B3_6.gk G7 (Ne.symm ne_w_3)
     have K_7 := K_6.blk hw Bw_6 hb (by decide) G7
     have sw_7 := sw_6.kt (Kt.of_blk Bw_6 G7) (by decide) (by decide) (by decide)
     have nw_7 := nw_6.kt (Kt.of_blk Bw_6 G7) (by decide)
     have ks_7 := ks_6.kt (Kt.of_blk Bw_6 G7) (by decide)
     have ms_7 := ms_6.kt (Kt.of_blk Bw_6 G7) (by decide)
     have h41_39 := u39.w (u38.w (u37.w h41_36))
     refine tkl_n rfl (ex_st h50_39 h41_39 hr7) (.inl (by kernel_rfl)) ?_
     clear K_6 sw_6 nw_6
     have h34_39 := u39.w (u38.w (u37.w (u36.w (u35.w (u34.w (u33.w (u32.w (u31.w (u30.w (u29.w (u28.w (u27.w (u26.w (u25.w (u24.w h34_23)))))))))))))))
     refine ltree_free (j := 19) rfl (by kernel_rfl) (by kernel_rfl) (by kernel_rfl) (by decide) (fun w => ex_nil (ad := ⟨wb, 0, none⟩) h34_39) (.inl (by kernel_rfl)) F39.l fun a40 u40 (h51_40 : a40.tmps.getD 51 undef = (.pointer (some ⟨wb, 0, none⟩))) => ?_
     have F40 := F39.pt u40
     refine ltree_free (j := 20) rfl (by kernel_rfl) (by kernel_rfl) (by kernel_rfl) (by decide) (fun w => ex_fa (T := 51) (f := 10) (k := 10) (b := wb) (fun _ _ => by kernel_rfl) h51_40) (.inl (by kernel_rfl)) F40.l fun a41 u41 (h52_41 : a41.tmps.getD 52 undef = (.pointer (some ⟨wb, 10, none⟩))) => ?_
     have F41 := F40.pt u41
     refine ltree1 (j := 21) (by kernel_rfl) ?_
     obtain ⟨w8, hr8, Bw_8, G8⟩ := st_run (T := 49) (o := 10) (v := v6) (cs' := #[(.int .i64 p), (.int .i64 wr), (.int .i64 vr), (.int .u64 sq), (.int .i64 tg), (.bool c), (.bool i), (pto kp), (pto mp), v5, v6]) (fun _ => by kernel_rfl) Bw_7 nw_7.one (by simp) rfl
     have B3_8 := B3_7.gk G8 (Ne.symm ne_w_3)
     have K_8 := K_7.blk hw Bw_7 hb (by decide) G8
     have sw_8 := sw_7.kt (Kt.of_blk Bw_7 G8) (by decide) (by decide) (by decide)
     have nw_8 := nw_7.kt (Kt.of_blk Bw_7 G8) (by decide)
     have ks_8 := ks_7.kt (Kt.of_blk Bw_7 G8) (by decide)
     have ms_8 := ms_7.kt (Kt.of_blk Bw_7 G8) (by decide)
     have h48_41 := u41.w (u40.w (u39.w (u38.w h48_37)))
     refine tkl_n rfl (ex_st h52_41 h48_41 hr8) (.inl (by kernel_rfl)) ?_
     clear K_7 sw_7 nw_7
     refine ltree0 (by kernel_rfl) ?_
     change Code.wp _ _ _ _ _
     refine wp_seq ?_
     refine wp_seq ?_
     obtain ⟨w9, hw9⟩ : ∃ w, w = w8.drew := ⟨_, rfl⟩
     have G9 : w8.grownBy w9 none := hw9 ▸ grown_drew _
     have Bw_9 := Bw_8.gn G9
     have B3_9 := B3_8.gn G9
     have K_9 := K_8.nw hw G9
     have sw_9 := sw_8.kt (Kt.of_none G9) (by decide) (by decide) (by decide)
     have nw_9 := nw_8.kt (Kt.of_none G9) (by decide)
     have ks_9 := ks_8.kt (Kt.of_none G9) (by decide)
     have ms_9 := ms_8.kt (Kt.of_none G9) (by decide)
     refine rg_still hw9 hmix (by kernel_rfl) ?_
     clear K_8 sw_8 nw_8
     have h0_41 := u41.w (u40.w (u39.w (u38.w (u37.w (u36.w (u35.w (u34.w (u33.w (u32.w (u31.w (u30.w (u29.w h0_28))))))))))))
     refine st_pq F41 (ex_mv h0_41) fun a42 u42 F42 h53_42 => ?_
     refine st_pq F42 (ex_nil h53_42) fun a43 u43 F43 h54_43 => ?_
     refine st_pq F43 (ex_fb 4 h54_43) fun a44 u44 F44 h55_44 => ?_
     refine st_pq F44 (ex_le (v := (.int .i64 tg)) h55_44 (Bw_9.cell 4)) fun a45 u45 F45 h56_45 => ?_
     refine st_pq F45 (ex_bin (vy := (.int .i64 8)) (v := (.int .i64 (tg * 8 : Nat))) h56_45 rfl (bo_mul8 tg (by omega) _)) fun a46 u46 F46 h57_46 => ?_
     have h3_46 := u46.w (u45.w (u44.w (u43.w (u42.w (u41.w (u40.w (u39.w (u38.w (u37.w (u36.w (u35.w (u34.w (u33.w (u32.w (u31.w (u30.w (u29.w (u28.w h3_27))))))))))))))))))
     refine st_pq F46 (ex_fb 2 h3_46) fun a47 u47 F47 h58_47 => ?_
     refine st_pq F47 (ex_le (v := (.int .i64 s.e)) h58_47 (B3_9.cell 2)) fun a48 u48 F48 h59_48 => ?_
     refine st_pq F48 (ex_bin (v := (.bool (decide (tg * 8 < s.e)))) (u48.w (u47.w h57_46)) h59_48 (bo_ltn (tg * 8) s.e _)) fun a49 u49 F49 h60_49 => ?_
     change Code.wp _ _ _ _ _
     by_cases hq : tg * 8 < s.e
     · refine wp_cond_true (h60_49.trans (by rw [decide_eq_true hq])) ?_
       refine rg_list ?_
       have h0_49 := u49.w (u48.w (u47.w (u46.w (u45.w (u44.w (u43.w (u42.w h0_41)))))))
       refine wl_pq F49 (ex_mv h0_49) fun a50 u50 F50 h61_50 => ?_
       have h3_50 := u50.w (u49.w (u48.w (u47.w h3_46)))
       refine wl_pq F50 (ex_fb 2 h3_50) fun a51 u51 F51 h62_51 => ?_
       refine wl_pq F51 (ex_le (v := (.int .i64 s.e)) h62_51 (B3_9.cell 2)) fun a52 u52 F52 h63_52 => ?_
       refine wl_pq F52 (ex_bin (vy := (.int .i64 7)) (v := (.int .i64 (s.e + 7 : Nat))) h63_52 rfl (bo_addn s.e 7 (by omega) _)) fun a53 u53 F53 h64_53 => ?_
       refine wl_pq F53 (ex_bin (vy := (.int .i64 8)) (v := (.int .i64 ((s.e + 7) / 8 : Nat))) h64_53 rfl (bo_quo_8 (s.e + 7) (by omega) _)) fun a54 u54 F54 h65_54 => ?_
       have h61_54 := u54.w (u53.w (u52.w (u51.w h61_50)))
       refine wl_pq F54 (ex_nil h61_54) fun a55 u55 F55 h66_55 => ?_
       refine wl_pq F55 (ex_fb 4 h66_55) fun a56 u56 F56 h67_56 => ?_
       obtain ⟨w10, hr10, Bw_10, G10⟩ := st_run (T := 3) (o := 4) (v := (.int .i64 ((s.e + 7) / 8 : Nat))) (cs' := #[(.int .i64 p), (.int .i64 wr), (.int .i64 vr), (.int .u64 sq), (.int .i64 ((s.e + 7) / 8 : Nat)), (.bool c), (.bool i), (pto kp), (pto mp), v5, v6]) (fun _ => by kernel_rfl) Bw_9 rfl (Nat.le_of_ble_eq_true rfl) rfl
       have B3_10 := B3_9.gk G10 (Ne.symm ne_w_3)
       have K_10 := K_9.blk hw Bw_9 hb (by decide) G10
       have sw_10 := sw_9.kt (Kt.of_blk Bw_9 G10) (by decide) (by decide) (by decide)
       have nw_10 := nw_9.kt (Kt.of_blk Bw_9 G10) (by decide)
       have ks_10 := ks_9.kt (Kt.of_blk Bw_9 G10) (by decide)
       have ms_10 := ms_9.kt (Kt.of_blk Bw_9 G10) (by decide)
       refine wl_n (ex_st h67_56 (u56.w (u55.w h65_54)) hr10) ?_
       clear K_9 sw_9 nw_9
       change Code.wp _ _ _ _ _
       refine wp_sr ?_
       refine wl_pq F56 (ex_as (v := (.bool true)) rfl) fun a57 u57 F57 h4_57 => ?_
       change Code.wp _ _ _ _ _
       refine wp_ret ?_
       try simp only [Exit.then, Exit.inBlock]
       exact bodyPost_ret (v := (.bool true)) ((results_tmp rfl _ _ _).trans (by rw [h4_57])) F57.defers ⟨rfl, _, _, (by rw [if_pos hq]; exact Bw_10), sw_10, nw_10, K_10⟩
     · refine wp_cond_false (h60_49.trans (by rw [decide_eq_false hq])) ?_
       refine wp_skip ?_
       change Code.wp _ _ _ _ _
       refine wp_sr ?_
       refine wl_pq F49 (ex_as (v := (.bool true)) rfl) fun a50 u50 F50 h4_50 => ?_
       change Code.wp _ _ _ _ _
       refine wp_ret ?_
       try simp only [Exit.then, Exit.inBlock]
       exact bodyPost_ret (v := (.bool true)) ((results_tmp rfl _ _ _).trans (by rw [h4_50])) F50.defers ⟨rfl, _, _, (by rw [if_neg hq]; exact Bw_9), sw_9, nw_9, K_9⟩
 · obtain ⟨gB, hgB⟩ : ∃ g, w2.heap.size = g := ⟨_, rfl⟩
   have ne_w_B : wb ≠ gB := by have := Bw_2.lt; omega
   have ne_3_B : g3 ≠ gB := by have := B3_2.lt; omega
   obtain ⟨w3, hr3, BB_3, G3, hs3⟩ := bs_run (op := Instr.buildSlice 49 1 #[(0, (.int .u64 sq))]) (n := 1) (T := 34) (cs := #[(.int .u64 sq)]) hgB (fun _ => by kernel_rfl)
   have Bw_3 := Bw_2.gn G3
   have B3_3 := B3_2.gn G3
   have K_3 := K_2.nw hw G3
   have sw_3 := sw_2.kt (Kt.of_none G3) (by decide) (by decide) (by decide)
   have nw_3 := nw_2.kt (Kt.of_none G3) (by decide)
   have ks_3 := ks_2.kt (Kt.of_none G3) (by decide)
   have ms_3 := ms_2.kt (Kt.of_none G3) (by decide)
   refine tkl_p rfl (ex_bs (vs := #[(0, (.int .u64 sq))]) (by have e0 : a33.eval (.tmp 46) = (.int .u64 sq) := h46_33; simp only [List.map_toArray, List.map_cons, List.map_nil, e0]) hr3) (.inr ⟨Bw_3, B3_3⟩) F33.l fun a34 u34 (h47_34 : a34.tmps.getD 47 undef = (.slice (some ⟨gB, 0, none⟩) 1 1)) => ?_
   have F34 := F33.pt u34
   clear K_2 sw_2 nw_2 hgB
   refine ltree1 (j := 7) (by kernel_rfl) ?_
   obtain ⟨gA, hgA⟩ : ∃ g, w3.heap.size = g := ⟨_, rfl⟩
   have ne_w_A : wb ≠ gA := by have := Bw_3.lt; omega
   have ne_3_A : g3 ≠ gA := by have := B3_3.lt; omega
   have ne_B_A : gB ≠ gA := by have := BB_3.lt; omega
   obtain ⟨w4, hr4, BA_4, G4, hs4⟩ := bs_run (op := Instr.buildSlice 48 1 #[(0, (.agg #[(.string s.title), (.string s.uri), (.int .i64 s.e), (.int .i64 s.li), (.int .i64 s.off), (pto kp2), (pto mp2), (.bool s.disc), (.string s.date)]))]) (n := 1) (T := 32) (cs := #[(.string s.title), (.string s.uri), (.int .i64 s.e), (.int .i64 s.li), (.int .i64 s.off), (pto kp2), (pto mp2), (.bool s.disc), (.string s.date)]) hgA (fun _ => by kernel_rfl)
   have Bw_4 := Bw_3.gn G4
   have B3_4 := B3_3.gn G4
   have BB_4 := BB_3.gn G4
   have K_4 := K_3.nw hw G4
   have sw_4 := sw_3.kt (Kt.of_none G4) (by decide) (by decide) (by decide)
   have nw_4 := nw_3.kt (Kt.of_none G4) (by decide)
   have ks_4 := ks_3.kt (Kt.of_none G4) (by decide)
   have ms_4 := ms_3.kt (Kt.of_none G4) (by decide)
   have h39_34 := u34.w (u33.w (u32.w (u31.w (u30.w (u29.w h39_28)))))
   refine tkl_p rfl (ex_bs (vs := #[(0, (.agg #[(.string s.title), (.string s.uri), (.int .i64 s.e), (.int .i64 s.li), (.int .i64 s.off), (pto kp2), (pto mp2), (.bool s.disc), (.string s.date)]))]) (by have e0 : a34.eval (.tmp 39) = (.agg #[(.string s.title), (.string s.uri), (.int .i64 s.e), (.int .i64 s.li), (.int .i64 s.off), (pto kp2), (pto mp2), (.bool s.disc), (.string s.date)]) := h39_34; simp only [List.map_toArray, List.map_cons, List.map_nil, e0]) hr4) (.inr ⟨Bw_4, B3_4⟩) F34.l fun a35 u35 (h40_35 : a35.tmps.getD 40 undef = (.slice (some ⟨gA, 0, none⟩) 1 1)) => ?_
   have F35 := F34.pt u35
   clear K_3 sw_3 nw_3 hgA
   refine ltree1 (j := 8) (by kernel_rfl) ?_
   obtain ⟨v5, w5, hr5, sw_5, G5⟩ := sw_4.push (s := s) (kp := kp2) (mp := mp2) (ty := 48) (c := 1) BA_4 ks_4 ms_4 (K_4.le hw) (by omega)
   have KR5 := sw_4.ktof G5
   have Bw_5 := Bw_4.kt KR5 (by decide)
   have B3_5 := B3_4.grown G5 hf3
   have BB_5 := BB_4.kt KR5 (by decide)
   have K_5 := sw_4.ktr K_4 hw (Nat.le_refl _) (by decide) G5
   have nw_5 := nw_4.kt KR5 (by decide)
   have ks_5 := ks_4.kt KR5 (by decide)
   have ms_5 := ms_4.kt KR5 (by decide)
   have h38_35 := u35.w (u34.w (u33.w (u32.w (u31.w (u30.w (u29.w (u28.w h38_27)))))))
   refine tkl_p rfl (ex_app h38_35 h40_35 hr5) (.inr ⟨Bw_5, B3_5⟩) F35.l fun a36 u36 (h41_36 : a36.tmps.getD 41 undef = v5) => ?_
   have F36 := F35.pt u36
   clear KR5 K_4 sw_4 nw_4
   refine ltree1 (j := 15) (by kernel_rfl) ?_
   obtain ⟨v6, w6, hr6, nw_6, G6⟩ := nw_5.push (m := sq) (ty := 49) (c := 1) BB_5 (K_5.le hw) (by omega)
   have KR6 := nw_5.ktof G6
   have Bw_6 := Bw_5.kt KR6 (by decide)
   have B3_6 := B3_5.kt KR6 (by decide)
   have K_6 := nw_5.ktr K_5 hw (Nat.le_refl _) (by decide) G6
   have sw_6 := sw_5.kt KR6 (by decide) (by decide) (by decide)
   have ks_6 := ks_5.kt KR6 (by decide)
   have ms_6 := ms_5.kt KR6 (by decide)
   have h45_36 := u36.w (u35.w (u34.w (u33.w h45_32)))
   refine tkl_p rfl (ex_app h45_36 (u36.w (u35.w h47_34)) hr6) (.inr ⟨Bw_6, B3_6⟩) F36.l fun a37 u37 (h48_37 : a37.tmps.getD 48 undef = v6) => ?_
   have F37 := F36.pt u37
   clear KR6 K_5 sw_5 nw_5
   have h33_37 := u37.w (u36.w (u35.w (u34.w (u33.w (u32.w (u31.w (u30.w (u29.w (u28.w (u27.w (u26.w (u25.w (u24.w (u23.w h33_22))))))))))))))
   refine ltree_free (j := 16) rfl (by kernel_rfl) (by kernel_rfl) (by kernel_rfl) (by decide) (fun w => ex_nil (ad := ⟨wb, 0, none⟩) h33_37) (.inr ⟨Bw_6, B3_6⟩) F37.l fun a38 u38 (h49_38 : a38.tmps.getD 49 undef = (.pointer (some ⟨wb, 0, none⟩))) => ?_
   have F38 := F37.pt u38
   refine ltree_free (j := 17) rfl (by kernel_rfl) (by kernel_rfl) (by kernel_rfl) (by decide) (fun w => ex_fa (T := 51) (f := 9) (k := 9) (b := wb) (fun _ _ => by kernel_rfl) h49_38) (.inr ⟨Bw_6, B3_6⟩) F38.l fun a39 u39 (h50_39 : a39.tmps.getD 50 undef = (.pointer (some ⟨wb, 9, none⟩))) => ?_
   have F39 := F38.pt u39
   refine ltree1 (j := 18) (by kernel_rfl) ?_
   obtain ⟨w7, hr7, Bw_7, G7⟩ := st_run (T := 48) (o := 9) (v := v5) (cs' := #[(.int .i64 p), (.int .i64 wr), (.int .i64 vr), (.int .u64 sq), (.int .i64 tg), (.bool c), (.bool i), (pto kp), (pto mp), v5, nv]) (fun _ => by kernel_rfl) Bw_6 sw_6.one (by simp) rfl
   have B3_7 := B3_6.gk G7 (Ne.symm ne_w_3)
   have K_7 := K_6.blk hw Bw_6 hb (by decide) G7
   have sw_7 := sw_6.kt (Kt.of_blk Bw_6 G7) (by decide) (by decide) (by decide)
   have nw_7 := nw_6.kt (Kt.of_blk Bw_6 G7) (by decide)
   have ks_7 := ks_6.kt (Kt.of_blk Bw_6 G7) (by decide)
   have ms_7 := ms_6.kt (Kt.of_blk Bw_6 G7) (by decide)
   have h41_39 := u39.w (u38.w (u37.w h41_36))
   refine tkl_n rfl (ex_st h50_39 h41_39 hr7) (.inl (by kernel_rfl)) ?_
   clear K_6 sw_6 nw_6
   have h34_39 := u39.w (u38.w (u37.w (u36.w (u35.w (u34.w (u33.w (u32.w (u31.w (u30.w (u29.w (u28.w (u27.w (u26.w (u25.w (u24.w h34_23)))))))))))))))
   refine ltree_free (j := 19) rfl (by kernel_rfl) (by kernel_rfl) (by kernel_rfl) (by decide) (fun w => ex_nil (ad := ⟨wb, 0, none⟩) h34_39) (.inl (by kernel_rfl)) F39.l fun a40 u40 (h51_40 : a40.tmps.getD 51 undef = (.pointer (some ⟨wb, 0, none⟩))) => ?_
   have F40 := F39.pt u40
   refine ltree_free (j := 20) rfl (by kernel_rfl) (by kernel_rfl) (by kernel_rfl) (by decide) (fun w => ex_fa (T := 51) (f := 10) (k := 10) (b := wb) (fun _ _ => by kernel_rfl) h51_40) (.inl (by kernel_rfl)) F40.l fun a41 u41 (h52_41 : a41.tmps.getD 52 undef = (.pointer (some ⟨wb, 10, none⟩))) => ?_
   have F41 := F40.pt u41
   refine ltree1 (j := 21) (by kernel_rfl) ?_
   obtain ⟨w8, hr8, Bw_8, G8⟩ := st_run (T := 49) (o := 10) (v := v6) (cs' := #[(.int .i64 p), (.int .i64 wr), (.int .i64 vr), (.int .u64 sq), (.int .i64 tg), (.bool c), (.bool i), (pto kp), (pto mp), v5, v6]) (fun _ => by kernel_rfl) Bw_7 nw_7.one (by simp) rfl
   have B3_8 := B3_7.gk G8 (Ne.symm ne_w_3)
   have K_8 := K_7.blk hw Bw_7 hb (by decide) G8
   have sw_8 := sw_7.kt (Kt.of_blk Bw_7 G8) (by decide) (by decide) (by decide)
   have nw_8 := nw_7.kt (Kt.of_blk Bw_7 G8) (by decide)
   have ks_8 := ks_7.kt (Kt.of_blk Bw_7 G8) (by decide)
   have ms_8 := ms_7.kt (Kt.of_blk Bw_7 G8) (by decide)
   have h48_41 := u41.w (u40.w (u39.w (u38.w h48_37)))
   refine tkl_n rfl (ex_st h52_41 h48_41 hr8) (.inl (by kernel_rfl)) ?_
   clear K_7 sw_7 nw_7
   refine ltree0 (by kernel_rfl) ?_
   change Code.wp _ _ _ _ _
   refine wp_seq ?_
   refine wp_seq ?_
   obtain ⟨w9, hw9⟩ : ∃ w, w = w8.drew := ⟨_, rfl⟩
   have G9 : w8.grownBy w9 none := hw9 ▸ grown_drew _
   have Bw_9 := Bw_8.gn G9
   have B3_9 := B3_8.gn G9
   have K_9 := K_8.nw hw G9
   have sw_9 := sw_8.kt (Kt.of_none G9) (by decide) (by decide) (by decide)
   have nw_9 := nw_8.kt (Kt.of_none G9) (by decide)
   have ks_9 := ks_8.kt (Kt.of_none G9) (by decide)
   have ms_9 := ms_8.kt (Kt.of_none G9) (by decide)
   refine rg_still hw9 hmix (by kernel_rfl) ?_
   clear K_8 sw_8 nw_8
   have h0_41 := u41.w (u40.w (u39.w (u38.w (u37.w (u36.w (u35.w (u34.w (u33.w (u32.w (u31.w (u30.w (u29.w h0_28))))))))))))
   refine st_pq F41 (ex_mv h0_41) fun a42 u42 F42 h53_42 => ?_
   refine st_pq F42 (ex_nil h53_42) fun a43 u43 F43 h54_43 => ?_
   refine st_pq F43 (ex_fb 4 h54_43) fun a44 u44 F44 h55_44 => ?_
   refine st_pq F44 (ex_le (v := (.int .i64 tg)) h55_44 (Bw_9.cell 4)) fun a45 u45 F45 h56_45 => ?_
   refine st_pq F45 (ex_bin (vy := (.int .i64 8)) (v := (.int .i64 (tg * 8 : Nat))) h56_45 rfl (bo_mul8 tg (by omega) _)) fun a46 u46 F46 h57_46 => ?_
   have h3_46 := u46.w (u45.w (u44.w (u43.w (u42.w (u41.w (u40.w (u39.w (u38.w (u37.w (u36.w (u35.w (u34.w (u33.w (u32.w (u31.w (u30.w (u29.w (u28.w h3_27))))))))))))))))))
   refine st_pq F46 (ex_fb 2 h3_46) fun a47 u47 F47 h58_47 => ?_
   refine st_pq F47 (ex_le (v := (.int .i64 s.e)) h58_47 (B3_9.cell 2)) fun a48 u48 F48 h59_48 => ?_
   refine st_pq F48 (ex_bin (v := (.bool (decide (tg * 8 < s.e)))) (u48.w (u47.w h57_46)) h59_48 (bo_ltn (tg * 8) s.e _)) fun a49 u49 F49 h60_49 => ?_
   change Code.wp _ _ _ _ _
   by_cases hq : tg * 8 < s.e
   · refine wp_cond_true (h60_49.trans (by rw [decide_eq_true hq])) ?_
     refine rg_list ?_
     have h0_49 := u49.w (u48.w (u47.w (u46.w (u45.w (u44.w (u43.w (u42.w h0_41)))))))
     refine wl_pq F49 (ex_mv h0_49) fun a50 u50 F50 h61_50 => ?_
     have h3_50 := u50.w (u49.w (u48.w (u47.w h3_46)))
     refine wl_pq F50 (ex_fb 2 h3_50) fun a51 u51 F51 h62_51 => ?_
     refine wl_pq F51 (ex_le (v := (.int .i64 s.e)) h62_51 (B3_9.cell 2)) fun a52 u52 F52 h63_52 => ?_
     refine wl_pq F52 (ex_bin (vy := (.int .i64 7)) (v := (.int .i64 (s.e + 7 : Nat))) h63_52 rfl (bo_addn s.e 7 (by omega) _)) fun a53 u53 F53 h64_53 => ?_
     refine wl_pq F53 (ex_bin (vy := (.int .i64 8)) (v := (.int .i64 ((s.e + 7) / 8 : Nat))) h64_53 rfl (bo_quo_8 (s.e + 7) (by omega) _)) fun a54 u54 F54 h65_54 => ?_
     have h61_54 := u54.w (u53.w (u52.w (u51.w h61_50)))
     refine wl_pq F54 (ex_nil h61_54) fun a55 u55 F55 h66_55 => ?_
     refine wl_pq F55 (ex_fb 4 h66_55) fun a56 u56 F56 h67_56 => ?_
     obtain ⟨w10, hr10, Bw_10, G10⟩ := st_run (T := 3) (o := 4) (v := (.int .i64 ((s.e + 7) / 8 : Nat))) (cs' := #[(.int .i64 p), (.int .i64 wr), (.int .i64 vr), (.int .u64 sq), (.int .i64 ((s.e + 7) / 8 : Nat)), (.bool c), (.bool i), (pto kp), (pto mp), v5, v6]) (fun _ => by kernel_rfl) Bw_9 rfl (Nat.le_of_ble_eq_true rfl) rfl
     have B3_10 := B3_9.gk G10 (Ne.symm ne_w_3)
     have K_10 := K_9.blk hw Bw_9 hb (by decide) G10
     have sw_10 := sw_9.kt (Kt.of_blk Bw_9 G10) (by decide) (by decide) (by decide)
     have nw_10 := nw_9.kt (Kt.of_blk Bw_9 G10) (by decide)
     have ks_10 := ks_9.kt (Kt.of_blk Bw_9 G10) (by decide)
     have ms_10 := ms_9.kt (Kt.of_blk Bw_9 G10) (by decide)
     refine wl_n (ex_st h67_56 (u56.w (u55.w h65_54)) hr10) ?_
     clear K_9 sw_9 nw_9
     change Code.wp _ _ _ _ _
     refine wp_sr ?_
     refine wl_pq F56 (ex_as (v := (.bool true)) rfl) fun a57 u57 F57 h4_57 => ?_
     change Code.wp _ _ _ _ _
     refine wp_ret ?_
     try simp only [Exit.then, Exit.inBlock]
     exact bodyPost_ret (v := (.bool true)) ((results_tmp rfl _ _ _).trans (by rw [h4_57])) F57.defers ⟨rfl, _, _, (by rw [if_pos hq]; exact Bw_10), sw_10, nw_10, K_10⟩
   · refine wp_cond_false (h60_49.trans (by rw [decide_eq_false hq])) ?_
     refine wp_skip ?_
     change Code.wp _ _ _ _ _
     refine wp_sr ?_
     refine wl_pq F49 (ex_as (v := (.bool true)) rfl) fun a50 u50 F50 h4_50 => ?_
     change Code.wp _ _ _ _ _
     refine wp_ret ?_
     try simp only [Exit.then, Exit.inBlock]
     exact bodyPost_ret (v := (.bool true)) ((results_tmp rfl _ _ _).trans (by rw [h4_50])) F50.defers ⟨rfl, _, _, (by rw [if_neg hq]; exact Bw_9), sw_9, nw_9, K_9⟩
theorem put_some {wb p wr vr sq tg : Nat} {c i : Bool} {kp mp : Option Nat} {sv nv : Value} {base : Nat} {kp2 mp2 : Option Nat} {s : SegD} {segs : List SegD} {ns : List Nat} {w0 : World} (hw : base ≤ w0.heap.size) (hb : base ≤ wb) (hl : segs.length ≤ 100) (hl2 : ns.length ≤ 100) (htg : tg ≤ 1000) (hse : s.e ≤ 1000) {m : Nat} (hfull : segs.length ≠ p) (hn0 : 0 < segs.length) (hm : ns[segs.length - 1]? = some m) (hm1 : m < 1000000) (Bw_0 : Blk w0 wb 51 #[.int .i64 p, .int .i64 wr, .int .i64 vr, .int .u64 sq, .int .i64 tg, .bool c, .bool i, pto kp, pto mp, sv, nv]) (sw_0 : SW w0 base sv segs) (nw_0 : NW w0 base nv ns) (ks_0 : SKey w0 kp2 s.key) (ms_0 : SMap w0 mp2 s.map) : Calls Tryd.prog 7 #[pt wb, .agg (ssegC s kp2 mp2)] w0 fun e w' => e = .returned (.bool true) ∧ ∃ sv2 nv2, Blk w' wb 51 #[.int .i64 p, .int .i64 wr, .int .i64 vr, .int .u64 sq, .int .i64 (if tg * 8 < s.e then (s.e + 7) / 8 else tg : Nat), .bool c, .bool i, pto kp, pto mp, sv2, nv2] ∧ SW w' base sv2 (segs ++ [s]) ∧ NW w' base nv2 (ns ++ [(m + 1)]) ∧ Kt base DS w0 w' := by
 refine calls_of_wp Tryd.func7 rfl ?_
 generalize hA : Act.mk _ _ = a0
 have F0 : Fz 68 a0 := by subst hA; exact ⟨by simp [Tryd.ntmps7], rfl⟩
 have h0_0 : a0.tmps.getD 0 undef = (.pointer (some ⟨wb, 0, none⟩)) := by subst hA; exact fr_arg rfl
 have h1_0 : a0.tmps.getD 1 undef = (.agg #[(.string s.title), (.string s.uri), (.int .i64 s.e), (.int .i64 s.li), (.int .i64 s.off), (pto kp2), (pto mp2), (.bool s.disc), (.string s.date)]) := by subst hA; exact fr_arg rfl
 have K_0 := Kt.refl base DS w0
 refine wp_sr ?_
 obtain ⟨g3, hg3⟩ : ∃ g, w0.heap.size = g := ⟨_, rfl⟩
 have ne_w_3 : wb ≠ g3 := by have := Bw_0.lt; omega
 have hf3 := sw_0.far hg3
 obtain ⟨w1, hr1, B3_1, G1, hs1⟩ := al_run (op := Instr.box 32 (.agg #[(.string s.title), (.string s.uri), (.int .i64 s.e), (.int .i64 s.li), (.int .i64 s.off), (pto kp2), (pto mp2), (.bool s.disc), (.string s.date)])) (T := 32) (cs := #[(.string s.title), (.string s.uri), (.int .i64 s.e), (.int .i64 s.li), (.int .i64 s.off), (pto kp2), (pto mp2), (.bool s.disc), (.string s.date)]) hg3 (fun _ => by kernel_rfl)
 have Bw_1 := Bw_0.gn G1
 have K_1 := K_0.nw hw G1
 have sw_1 := sw_0.kt (Kt.of_none G1) (by decide) (by decide) (by decide)
 have nw_1 := nw_0.kt (Kt.of_none G1) (by decide)
 have ks_1 := ks_0.kt (Kt.of_none G1) (by decide)
 have ms_1 := ms_0.kt (Kt.of_none G1) (by decide)
 refine wl_pq F0 (ex_bx h1_0 hr1) fun a1 u1 F1 (h3_1 : a1.tmps.getD 3 undef = (.pointer (some ⟨g3, 0, none⟩))) => ?_
 clear K_0 sw_0 nw_0
 refine wl_pq F1 (ex_as (v := (.bool false)) rfl) fun a2 u2 F2 h4_2 => ?_
 change Code.wp _ _ _ _ _
 refine wp_sr ?_
 refine wl_pq F2 (ex_mv (u2.w (u1.w h0_0))) fun a3 u3 F3 h7_3 => ?_
 refine wl_pq F3 (ex_nil h7_3) fun a4 u4 F4 h8_4 => ?_
 refine wl_pq F4 (ex_fb 9 h8_4) fun a5 u5 F5 h9_5 => ?_
 refine wl_pq F5 (ex_le (v := sv) h9_5 (Bw_1.cell 9)) fun a6 u6 F6 h10_6 => ?_
 refine wl_pq F6 (ex_bi (w' := w1) (args := #[sv]) (v := (.int .i64 segs.length)) (arg1 h10_6) (sw_1.len _)) fun a7 u7 F7 h11_7 => ?_
 refine wl_pq F7 (ex_as h11_7) fun a8 u8 F8 h5_8 => ?_
 change Code.wp _ _ _ _ _
 refine wp_seq ?_
 refine wp_sr ?_
 refine wl_pq F8 (ex_mv h5_8) fun a9 u9 F9 h12_9 => ?_
 have h0_9 := u9.w (u8.w (u7.w (u6.w (u5.w (u4.w (u3.w (u2.w (u1.w h0_0))))))))
 refine wl_pq F9 (ex_mv h0_9) fun a10 u10 F10 h13_10 => ?_
 refine wl_pq F10 (ex_nil h13_10) fun a11 u11 F11 h14_11 => ?_
 refine wl_pq F11 (ex_fb 0 h14_11) fun a12 u12 F12 h15_12 => ?_
 refine wl_pq F12 (ex_le (v := (.int .i64 p)) h15_12 (Bw_1.cell 0)) fun a13 u13 F13 h16_13 => ?_
 have h12_13 := u13.w (u12.w (u11.w (u10.w h12_9)))
 refine wl_pq F13 (ex_bin (v := (.bool false)) h12_13 h16_13 ((bo_eqn segs.length p _).trans (by rw [decide_eq_false (by omega)]))) fun a14 u14 F14 h17_14 => ?_
 change Code.wp _ _ _ _ _
 refine wp_cond_false h17_14 ?_
 refine wp_skip ?_
 change Code.wp _ _ _ _ _
 refine wp_sr ?_
 have h0_14 := u14.w (u13.w (u12.w (u11.w (u10.w h0_9))))
 refine wl_pq F14 (ex_mv h0_14) fun a15 u15 F15 h18_15 => ?_
 refine wl_pq F15 (ex_nil h18_15) fun a16 u16 F16 h19_16 => ?_
 refine wl_pq F16 (ex_fb 3 h19_16) fun a17 u17 F17 h20_17 => ?_
 refine wl_pq F17 (ex_le (v := (.int .u64 sq)) h20_17 (Bw_1.cell 3)) fun a18 u18 F18 h21_18 => ?_
 refine wl_pq F18 (ex_as h21_18) fun a19 u19 F19 h6_19 => ?_
 change Code.wp _ _ _ _ _
 refine wp_seq ?_
 refine wp_sr ?_
 have h5_19 := u19.w (u18.w (u17.w (u16.w (u15.w (u14.w (u13.w (u12.w (u11.w (u10.w (u9.w h5_8))))))))))
 refine wl_pq F19 (ex_mv h5_19) fun a20 u20 F20 h22_20 => ?_
 refine wl_pq F20 (ex_bin (vy := (.int .i64 0)) (v := (.bool true)) h22_20 rfl ((bo_gtn segs.length 0 _).trans (by rw [decide_eq_true (by omega)]))) fun a21 u21 F21 h23_21 => ?_
 change Code.wp _ _ _ _ _
 refine wp_cond_true h23_21 ?_
 refine rg_list ?_
 have h0_21 := u21.w (u20.w (u19.w (u18.w (u17.w (u16.w (u15.w h0_14))))))
 refine wl_pq F21 (ex_mv h0_21) fun a22 u22 F22 h24_22 => ?_
 refine wl_pq F22 (ex_nil h24_22) fun a23 u23 F23 h25_23 => ?_
 refine wl_pq F23 (ex_fb 10 h25_23) fun a24 u24 F24 h26_24 => ?_
 refine wl_pq F24 (ex_le (v := nv) h26_24 (Bw_1.cell 10)) fun a25 u25 F25 h27_25 => ?_
 have h5_25 := u25.w (u24.w (u23.w (u22.w (u21.w (u20.w h5_19)))))
 refine wl_pq F25 (ex_mv h5_25) fun a26 u26 F26 h28_26 => ?_
 refine wl_pq F26 (ex_bin (vy := (.int .i64 1)) (v := (.int .i64 (segs.length - 1 : Nat))) h28_26 rfl (bo_subn segs.length 1 (by omega) (by omega) _)) fun a27 u27 F27 h29_27 => ?_
 obtain ⟨ad, hix, hcl⟩ := nw_1.elem? hm
 refine wl_pq F27 (ex_ixg (vx := nv) (vy := (.int .i64 (segs.length - 1 : Nat))) (v := (.pointer (some ad))) (u27.w (u26.w h27_25)) h29_27 (hix _)) fun a28 u28 F28 h30_28 => ?_
 refine wl_pq F28 (ex_le (v := (.int .u64 m)) h30_28 hcl) fun a29 u29 F29 h31_29 => ?_
 refine wl_pq F29 (ex_bin (vy := (.int .u64 1)) (v := (.int .u64 (m + 1 : Nat))) h31_29 rfl (bo_add64 m 1 (by omega) _)) fun a30 u30 F30 h32_30 => ?_
 refine wl_pq F30 (ex_as h32_30) fun a31 u31 F31 h6_31 => ?_
 change Code.wp _ _ _ _ _
 refine wp_seq ?_
 obtain ⟨w2, hw2⟩ : ∃ w, w = w1.drew := ⟨_, rfl⟩
 have G2 : w1.grownBy w2 none := hw2 ▸ grown_drew _
 have Bw_2 := Bw_1.gn G2
 have B3_2 := B3_1.gn G2
 have K_2 := K_1.nw hw G2
 have sw_2 := sw_1.kt (Kt.of_none G2) (by decide) (by decide) (by decide)
 have nw_2 := nw_1.kt (Kt.of_none G2) (by decide)
 have ks_2 := ks_1.kt (Kt.of_none G2) (by decide)
 have ms_2 := ms_1.kt (Kt.of_none G2) (by decide)
 refine rg_ltree 18 22 (fun w' => Blk w' wb 51 #[(.int .i64 p), (.int .i64 wr), (.int .i64 vr), (.int .u64 sq), (.int .i64 tg), (.bool c), (.bool i), (pto kp), (pto mp), sv, nv] ∧ Blk w' g3 32 #[(.string s.title), (.string s.uri), (.int .i64 s.e), (.int .i64 s.li), (.int .i64 s.off), (pto kp2), (pto mp2), (.bool s.disc), (.string s.date)]) hw2 hmix rfl ?_
 clear K_1 sw_1 nw_1
 have h0_31 := u31.w (u30.w (u29.w (u28.w (u27.w (u26.w (u25.w (u24.w (u23.w (u22.w h0_21)))))))))
 refine ltree_free (j := 0) rfl (by kernel_rfl) (by kernel_rfl) (by kernel_rfl) (by decide) (fun w => ex_mv (v := (.pointer (some ⟨wb, 0, none⟩))) h0_31) (.inr ⟨Bw_2, B3_2⟩) F31.l fun a32 u32 (h33_32 : a32.tmps.getD 33 undef = (.pointer (some ⟨wb, 0, none⟩))) => ?_
 have F32 := F31.pt u32
 refine ltree_free (j := 1) rfl (by kernel_rfl) (by kernel_rfl) (by kernel_rfl) (by decide) (fun w => ex_mv (v := (.pointer (some ⟨wb, 0, none⟩))) (u32.w h0_31)) (.inr ⟨Bw_2, B3_2⟩) F32.l fun a33 u33 (h34_33 : a33.tmps.getD 34 undef = (.pointer (some ⟨wb, 0, none⟩))) => ?_
 have F33 := F32.pt u33
 refine ltree_free (j := 2) rfl (by kernel_rfl) (by kernel_rfl) (by kernel_rfl) (by decide) (fun w => ex_mv (v := (.pointer (some ⟨wb, 0, none⟩))) (u33.w (u32.w h0_31))) (.inr ⟨Bw_2, B3_2⟩) F33.l fun a34 u34 (h35_34 : a34.tmps.getD 35 undef = (.pointer (some ⟨wb, 0, none⟩))) => ?_
 have F34 := F33.pt u34
 refine ltree_free (j := 3) rfl (by kernel_rfl) (by kernel_rfl) (by kernel_rfl) (by decide) (fun w => ex_nil (ad := ⟨wb, 0, none⟩) h35_34) (.inr ⟨Bw_2, B3_2⟩) F34.l fun a35 u35 (h36_35 : a35.tmps.getD 36 undef = (.pointer (some ⟨wb, 0, none⟩))) => ?_
 have F35 := F34.pt u35
 refine ltree_free (j := 4) rfl (by kernel_rfl) (by kernel_rfl) (by kernel_rfl) (by decide) (fun w => ex_fa (T := 51) (f := 9) (k := 9) (b := wb) (fun _ _ => by kernel_rfl) h36_35) (.inr ⟨Bw_2, B3_2⟩) F35.l fun a36 u36 (h37_36 : a36.tmps.getD 37 undef = (.pointer (some ⟨wb, 9, none⟩))) => ?_
 have F36 := F35.pt u36
 refine ltree_take (j := 5) rfl (by kernel_rfl) (by kernel_rfl) (by kernel_rfl) (by kernel_rfl) (by decide) (by kernel_rfl) (fun w hw => ex_le (v := sv) h37_36 (hw.1.cell 9)) (⟨Bw_2, B3_2⟩) F36.l fun a37 u37 h38_37 => ?_
 have F37 := F36.pt u37
 have h3_37 := u37.w (u36.w (u35.w (u34.w (u33.w (u32.w (u31.w (u30.w (u29.w (u28.w (u27.w (u26.w (u25.w (u24.w (u23.w (u22.w (u21.w (u20.w (u19.w (u18.w (u17.w (u16.w (u15.w (u14.w (u13.w (u12.w (u11.w (u10.w (u9.w (u8.w (u7.w (u6.w (u5.w (u4.w (u3.w (u2.w h3_1)))))))))))))))))))))))))))))))))))
 refine ltree_take (j := 6) rfl (by kernel_rfl) (by kernel_rfl) (by kernel_rfl) (by kernel_rfl) (by decide) (by kernel_rfl) (fun w hw => ex_lda h3_37 (ld_agg (n := 9) (xs := #[(.string s.title), (.string s.uri), (.int .i64 s.e), (.int .i64 s.li), (.int .i64 s.off), (pto kp2), (pto mp2), (.bool s.disc), (.string s.date)]) (fun _ => by kernel_rfl) (fun _ => by kernel_rfl) hw.2 rfl (fun _ _ => by rw [Nat.zero_add] <;> rfl))) (⟨Bw_2, B3_2⟩) F37.l fun a38 u38 (h39_38 : a38.tmps.getD 39 undef = (.agg #[(.string s.title), (.string s.uri), (.int .i64 s.e), (.int .i64 s.li), (.int .i64 s.off), (pto kp2), (pto mp2), (.bool s.disc), (.string s.date)])) => ?_
 have F38 := F37.pt u38
 have h0_38 := u38.w (u37.w (u36.w (u35.w (u34.w (u33.w (u32.w h0_31))))))
 refine ltree_free (j := 9) rfl (by kernel_rfl) (by kernel_rfl) (by kernel_rfl) (by decide) (fun w => ex_mv (v := (.pointer (some ⟨wb, 0, none⟩))) h0_38) (.inr ⟨Bw_2, B3_2⟩) F38.l fun a39 u39 (h42_39 : a39.tmps.getD 42 undef = (.pointer (some ⟨wb, 0, none⟩))) => ?_
 have F39 := F38.pt u39
 refine ltree_free (j := 10) rfl (by kernel_rfl) (by kernel_rfl) (by kernel_rfl) (by decide) (fun w => ex_nil (ad := ⟨wb, 0, none⟩) h42_39) (.inr ⟨Bw_2, B3_2⟩) F39.l fun a40 u40 (h43_40 : a40.tmps.getD 43 undef = (.pointer (some ⟨wb, 0, none⟩))) => ?_
 have F40 := F39.pt u40
 refine ltree_free (j := 11) rfl (by kernel_rfl) (by kernel_rfl) (by kernel_rfl) (by decide) (fun w => ex_fa (T := 51) (f := 10) (k := 10) (b := wb) (fun _ _ => by kernel_rfl) h43_40) (.inr ⟨Bw_2, B3_2⟩) F40.l fun a41 u41 (h44_41 : a41.tmps.getD 44 undef = (.pointer (some ⟨wb, 10, none⟩))) => ?_
 have F41 := F40.pt u41
 refine ltree_take (j := 12) rfl (by kernel_rfl) (by kernel_rfl) (by kernel_rfl) (by kernel_rfl) (by decide) (by kernel_rfl) (fun w hw => ex_le (v := nv) h44_41 (hw.1.cell 10)) (⟨Bw_2, B3_2⟩) F41.l fun a42 u42 h45_42 => ?_
 have F42 := F41.pt u42
 have h6_42 := u42.w (u41.w (u40.w (u39.w (u38.w (u37.w (u36.w (u35.w (u34.w (u33.w (u32.w h6_31))))))))))
 refine ltree_free (j := 13) rfl (by kernel_rfl) (by kernel_rfl) (by kernel_rfl) (by decide) (fun w => ex_mv (v := (.int .u64 (m + 1 : Nat))) h6_42) (.inr ⟨Bw_2, B3_2⟩) F42.l fun a43 u43 (h46_43 : a43.tmps.getD 46 undef = (.int .u64 (m + 1 : Nat))) => ?_
 have F43 := F42.pt u43
 refine ltree2 (j := 7) (k := 14) (by kernel_rfl) ?_ ?_
 · obtain ⟨gA, hgA⟩ : ∃ g, w2.heap.size = g := ⟨_, rfl⟩
   have ne_w_A : wb ≠ gA := by have := Bw_2.lt; omega
   have ne_3_A : g3 ≠ gA := by have := B3_2.lt; omega
   obtain ⟨w3, hr3, BA_3, G3, hs3⟩ := bs_run (op := Instr.buildSlice 48 1 #[(0, (.agg #[(.string s.title), (.string s.uri), (.int .i64 s.e), (.int .i64 s.li), (.int .i64 s.off), (pto kp2), (pto mp2), (.bool s.disc), (.string s.date)]))]) (n := 1) (T := 32) (cs := #[(.string s.title), (.string s.uri), (.int .i64 s.e), (.int .i64 s.li), (.int .i64 s.off), (pto kp2), (pto mp2), (.bool s.disc), (.string s.date)]) hgA (fun _ => by kernel_rfl)
   have Bw_3 := Bw_2.gn G3
   have B3_3 := B3_2.gn G3
   have K_3 := K_2.nw hw G3
   have sw_3 := sw_2.kt (Kt.of_none G3) (by decide) (by decide) (by decide)
   have nw_3 := nw_2.kt (Kt.of_none G3) (by decide)
   have ks_3 := ks_2.kt (Kt.of_none G3) (by decide)
   have ms_3 := ms_2.kt (Kt.of_none G3) (by decide)
   have h39_43 := u43.w (u42.w (u41.w (u40.w (u39.w h39_38))))
   refine tkl_p rfl (ex_bs (vs := #[(0, (.agg #[(.string s.title), (.string s.uri), (.int .i64 s.e), (.int .i64 s.li), (.int .i64 s.off), (pto kp2), (pto mp2), (.bool s.disc), (.string s.date)]))]) (by have e0 : a43.eval (.tmp 39) = (.agg #[(.string s.title), (.string s.uri), (.int .i64 s.e), (.int .i64 s.li), (.int .i64 s.off), (pto kp2), (pto mp2), (.bool s.disc), (.string s.date)]) := h39_43; simp only [List.map_toArray, List.map_cons, List.map_nil, e0]) hr3) (.inr ⟨Bw_3, B3_3⟩) F43.l fun a44 u44 (h40_44 : a44.tmps.getD 40 undef = (.slice (some ⟨gA, 0, none⟩) 1 1)) => ?_
   have F44 := F43.pt u44
   clear K_2 sw_2 nw_2 hgA
   refine ltree2 (j := 8) (k := 14) (by kernel_rfl) ?_ ?_
   · obtain ⟨v4, w4, hr4, sw_4, G4⟩ := sw_3.push (s := s) (kp := kp2) (mp := mp2) (ty := 48) (c := 1) BA_3 ks_3 ms_3 (K_3.le hw) (by omega)
     have KR4 := sw_3.ktof G4
     have Bw_4 := Bw_3.kt KR4 (by decide)
     have B3_4 := B3_3.grown G4 hf3
     have K_4 := sw_3.ktr K_3 hw (Nat.le_refl _) (by decide) G4
     have nw_4 := nw_3.kt KR4 (by decide)
     have ks_4 := ks_3.kt KR4 (by decide)
     have ms_4 := ms_3.kt KR4 (by decide)
     have h38_44 := u44.w (u43.w (u42.w (u41.w (u40.w (u39.w (u38.w h38_37))))))
     refine tkl_p rfl (ex_app h38_44 h40_44 hr4) (.inr ⟨Bw_4, B3_4⟩) F44.l fun a45 u45 (h41_45 : a45.tmps.getD 41 undef = v4) => ?_
     have F45 := F44.pt u45
     clear KR4 K_3 sw_3 nw_3
     refine ltree1 (j := 14) (by kernel_rfl) ?_
     obtain ⟨gB, hgB⟩ : ∃ g, w4.heap.size = g := ⟨_, rfl⟩
     have ne_w_B : wb ≠ gB := by have := Bw_4.lt; omega
     have ne_3_B : g3 ≠ gB := by have := B3_4.lt; omega
     obtain ⟨w5, hr5, BB_5, G5, hs5⟩ := bs_run (op := Instr.buildSlice 49 1 #[(0, (.int .u64 (m + 1 : Nat)))]) (n := 1) (T := 34) (cs := #[(.int .u64 (m + 1 : Nat))]) hgB (fun _ => by kernel_rfl)
     have Bw_5 := Bw_4.gn G5
     have B3_5 := B3_4.gn G5
     have K_5 := K_4.nw hw G5
     have sw_5 := sw_4.kt (Kt.of_none G5) (by decide) (by decide) (by decide)
     have nw_5 := nw_4.kt (Kt.of_none G5) (by decide)
     have ks_5 := ks_4.kt (Kt.of_none G5) (by decide)
     have ms_5 := ms_4.kt (Kt.of_none G5) (by decide)
     refine tkl_p rfl (ex_bs (vs := #[(0, (.int .u64 (m + 1 : Nat)))]) (by have e0 : a45.eval (.tmp 46) = (.int .u64 (m + 1 : Nat)) := (u45.w (u44.w h46_43)); simp only [List.map_toArray, List.map_cons, List.map_nil, e0]) hr5) (.inr ⟨Bw_5, B3_5⟩) F45.l fun a46 u46 (h47_46 : a46.tmps.getD 47 undef = (.slice (some ⟨gB, 0, none⟩) 1 1)) => ?_
     have F46 := F45.pt u46
     clear K_4 sw_4 nw_4 hgB
     refine ltree1 (j := 15) (by kernel_rfl) ?_
     obtain ⟨v6, w6, hr6, nw_6, G6⟩ := nw_5.push (m := (m + 1)) (ty := 49) (c := 1) BB_5 (K_5.le hw) (by omega)
     have KR6 := nw_5.ktof G6
     have Bw_6 := Bw_5.kt KR6 (by decide)
     have B3_6 := B3_5.kt KR6 (by decide)
     have K_6 := nw_5.ktr K_5 hw (Nat.le_refl _) (by decide) G6
     have sw_6 := sw_5.kt KR6 (by decide) (by decide) (by decide)
     have ks_6 := ks_5.kt KR6 (by decide)
     have ms_6 := ms_5.kt KR6 (by decide)
     have h45_46 := u46.w (u45.w (u44.w (u43.w h45_42)))
     refine tkl_p rfl (ex_app h45_46 h47_46 hr6) (.inr ⟨Bw_6, B3_6⟩) F46.l fun a47 u47 (h48_47 : a47.tmps.getD 48 undef = v6) => ?_
     have F47 := F46.pt u47
     clear KR6 K_5 sw_5 nw_5
     have h33_47 := u47.w (u46.w (u45.w (u44.w (u43.w (u42.w (u41.w (u40.w (u39.w (u38.w (u37.w (u36.w (u35.w (u34.w (u33.w h33_32))))))))))))))
     refine ltree_free (j := 16) rfl (by kernel_rfl) (by kernel_rfl) (by kernel_rfl) (by decide) (fun w => ex_nil (ad := ⟨wb, 0, none⟩) h33_47) (.inr ⟨Bw_6, B3_6⟩) F47.l fun a48 u48 (h49_48 : a48.tmps.getD 49 undef = (.pointer (some ⟨wb, 0, none⟩))) => ?_
     have F48 := F47.pt u48
     refine ltree_free (j := 17) rfl (by kernel_rfl) (by kernel_rfl) (by kernel_rfl) (by decide) (fun w => ex_fa (T := 51) (f := 9) (k := 9) (b := wb) (fun _ _ => by kernel_rfl) h49_48) (.inr ⟨Bw_6, B3_6⟩) F48.l fun a49 u49 (h50_49 : a49.tmps.getD 50 undef = (.pointer (some ⟨wb, 9, none⟩))) => ?_
     have F49 := F48.pt u49
     refine ltree1 (j := 18) (by kernel_rfl) ?_
     obtain ⟨w7, hr7, Bw_7, G7⟩ := st_run (T := 48) (o := 9) (v := v4) (cs' := #[(.int .i64 p), (.int .i64 wr), (.int .i64 vr), (.int .u64 sq), (.int .i64 tg), (.bool c), (.bool i), (pto kp), (pto mp), v4, nv]) (fun _ => by kernel_rfl) Bw_6 sw_6.one (by simp) rfl
     have B3_7 := B3_6.gk G7 (Ne.symm ne_w_3)
     have K_7 := K_6.blk hw Bw_6 hb (by decide) G7
     have sw_7 := sw_6.kt (Kt.of_blk Bw_6 G7) (by decide) (by decide) (by decide)
     have nw_7 := nw_6.kt (Kt.of_blk Bw_6 G7) (by decide)
     have ks_7 := ks_6.kt (Kt.of_blk Bw_6 G7) (by decide)
     have ms_7 := ms_6.kt (Kt.of_blk Bw_6 G7) (by decide)
     have h41_49 := u49.w (u48.w (u47.w (u46.w h41_45)))
     refine tkl_n rfl (ex_st h50_49 h41_49 hr7) (.inl (by kernel_rfl)) ?_
     clear K_6 sw_6 nw_6
     have h34_49 := u49.w (u48.w (u47.w (u46.w (u45.w (u44.w (u43.w (u42.w (u41.w (u40.w (u39.w (u38.w (u37.w (u36.w (u35.w (u34.w h34_33)))))))))))))))
     refine ltree_free (j := 19) rfl (by kernel_rfl) (by kernel_rfl) (by kernel_rfl) (by decide) (fun w => ex_nil (ad := ⟨wb, 0, none⟩) h34_49) (.inl (by kernel_rfl)) F49.l fun a50 u50 (h51_50 : a50.tmps.getD 51 undef = (.pointer (some ⟨wb, 0, none⟩))) => ?_
     have F50 := F49.pt u50
     refine ltree_free (j := 20) rfl (by kernel_rfl) (by kernel_rfl) (by kernel_rfl) (by decide) (fun w => ex_fa (T := 51) (f := 10) (k := 10) (b := wb) (fun _ _ => by kernel_rfl) h51_50) (.inl (by kernel_rfl)) F50.l fun a51 u51 (h52_51 : a51.tmps.getD 52 undef = (.pointer (some ⟨wb, 10, none⟩))) => ?_
     have F51 := F50.pt u51
     refine ltree1 (j := 21) (by kernel_rfl) ?_
     obtain ⟨w8, hr8, Bw_8, G8⟩ := st_run (T := 49) (o := 10) (v := v6) (cs' := #[(.int .i64 p), (.int .i64 wr), (.int .i64 vr), (.int .u64 sq), (.int .i64 tg), (.bool c), (.bool i), (pto kp), (pto mp), v4, v6]) (fun _ => by kernel_rfl) Bw_7 nw_7.one (by simp) rfl
     have B3_8 := B3_7.gk G8 (Ne.symm ne_w_3)
     have K_8 := K_7.blk hw Bw_7 hb (by decide) G8
     have sw_8 := sw_7.kt (Kt.of_blk Bw_7 G8) (by decide) (by decide) (by decide)
     have nw_8 := nw_7.kt (Kt.of_blk Bw_7 G8) (by decide)
     have ks_8 := ks_7.kt (Kt.of_blk Bw_7 G8) (by decide)
     have ms_8 := ms_7.kt (Kt.of_blk Bw_7 G8) (by decide)
     have h48_51 := u51.w (u50.w (u49.w (u48.w h48_47)))
     refine tkl_n rfl (ex_st h52_51 h48_51 hr8) (.inl (by kernel_rfl)) ?_
     clear K_7 sw_7 nw_7
     refine ltree0 (by kernel_rfl) ?_
     change Code.wp _ _ _ _ _
     refine wp_seq ?_
     refine wp_seq ?_
     obtain ⟨w9, hw9⟩ : ∃ w, w = w8.drew := ⟨_, rfl⟩
     have G9 : w8.grownBy w9 none := hw9 ▸ grown_drew _
     have Bw_9 := Bw_8.gn G9
     have B3_9 := B3_8.gn G9
     have K_9 := K_8.nw hw G9
     have sw_9 := sw_8.kt (Kt.of_none G9) (by decide) (by decide) (by decide)
     have nw_9 := nw_8.kt (Kt.of_none G9) (by decide)
     have ks_9 := ks_8.kt (Kt.of_none G9) (by decide)
     have ms_9 := ms_8.kt (Kt.of_none G9) (by decide)
     refine rg_still hw9 hmix (by kernel_rfl) ?_
     clear K_8 sw_8 nw_8
     have h0_51 := u51.w (u50.w (u49.w (u48.w (u47.w (u46.w (u45.w (u44.w (u43.w (u42.w (u41.w (u40.w (u39.w h0_38))))))))))))
     refine st_pq F51 (ex_mv h0_51) fun a52 u52 F52 h53_52 => ?_
     refine st_pq F52 (ex_nil h53_52) fun a53 u53 F53 h54_53 => ?_
     refine st_pq F53 (ex_fb 4 h54_53) fun a54 u54 F54 h55_54 => ?_
     refine st_pq F54 (ex_le (v := (.int .i64 tg)) h55_54 (Bw_9.cell 4)) fun a55 u55 F55 h56_55 => ?_
     refine st_pq F55 (ex_bin (vy := (.int .i64 8)) (v := (.int .i64 (tg * 8 : Nat))) h56_55 rfl (bo_mul8 tg (by omega) _)) fun a56 u56 F56 h57_56 => ?_
     have h3_56 := u56.w (u55.w (u54.w (u53.w (u52.w (u51.w (u50.w (u49.w (u48.w (u47.w (u46.w (u45.w (u44.w (u43.w (u42.w (u41.w (u40.w (u39.w (u38.w h3_37))))))))))))))))))
     refine st_pq F56 (ex_fb 2 h3_56) fun a57 u57 F57 h58_57 => ?_
     refine st_pq F57 (ex_le (v := (.int .i64 s.e)) h58_57 (B3_9.cell 2)) fun a58 u58 F58 h59_58 => ?_
     refine st_pq F58 (ex_bin (v := (.bool (decide (tg * 8 < s.e)))) (u58.w (u57.w h57_56)) h59_58 (bo_ltn (tg * 8) s.e _)) fun a59 u59 F59 h60_59 => ?_
     change Code.wp _ _ _ _ _
     by_cases hq : tg * 8 < s.e
     · refine wp_cond_true (h60_59.trans (by rw [decide_eq_true hq])) ?_
       refine rg_list ?_
       have h0_59 := u59.w (u58.w (u57.w (u56.w (u55.w (u54.w (u53.w (u52.w h0_51)))))))
       refine wl_pq F59 (ex_mv h0_59) fun a60 u60 F60 h61_60 => ?_
       have h3_60 := u60.w (u59.w (u58.w (u57.w h3_56)))
       refine wl_pq F60 (ex_fb 2 h3_60) fun a61 u61 F61 h62_61 => ?_
       refine wl_pq F61 (ex_le (v := (.int .i64 s.e)) h62_61 (B3_9.cell 2)) fun a62 u62 F62 h63_62 => ?_
       refine wl_pq F62 (ex_bin (vy := (.int .i64 7)) (v := (.int .i64 (s.e + 7 : Nat))) h63_62 rfl (bo_addn s.e 7 (by omega) _)) fun a63 u63 F63 h64_63 => ?_
       refine wl_pq F63 (ex_bin (vy := (.int .i64 8)) (v := (.int .i64 ((s.e + 7) / 8 : Nat))) h64_63 rfl (bo_quo_8 (s.e + 7) (by omega) _)) fun a64 u64 F64 h65_64 => ?_
       have h61_64 := u64.w (u63.w (u62.w (u61.w h61_60)))
       refine wl_pq F64 (ex_nil h61_64) fun a65 u65 F65 h66_65 => ?_
       refine wl_pq F65 (ex_fb 4 h66_65) fun a66 u66 F66 h67_66 => ?_
       obtain ⟨w10, hr10, Bw_10, G10⟩ := st_run (T := 3) (o := 4) (v := (.int .i64 ((s.e + 7) / 8 : Nat))) (cs' := #[(.int .i64 p), (.int .i64 wr), (.int .i64 vr), (.int .u64 sq), (.int .i64 ((s.e + 7) / 8 : Nat)), (.bool c), (.bool i), (pto kp), (pto mp), v4, v6]) (fun _ => by kernel_rfl) Bw_9 rfl (Nat.le_of_ble_eq_true rfl) rfl
       have B3_10 := B3_9.gk G10 (Ne.symm ne_w_3)
       have K_10 := K_9.blk hw Bw_9 hb (by decide) G10
       have sw_10 := sw_9.kt (Kt.of_blk Bw_9 G10) (by decide) (by decide) (by decide)
       have nw_10 := nw_9.kt (Kt.of_blk Bw_9 G10) (by decide)
       have ks_10 := ks_9.kt (Kt.of_blk Bw_9 G10) (by decide)
       have ms_10 := ms_9.kt (Kt.of_blk Bw_9 G10) (by decide)
       refine wl_n (ex_st h67_66 (u66.w (u65.w h65_64)) hr10) ?_
       clear K_9 sw_9 nw_9
       change Code.wp _ _ _ _ _
       refine wp_sr ?_
       refine wl_pq F66 (ex_as (v := (.bool true)) rfl) fun a67 u67 F67 h4_67 => ?_
       change Code.wp _ _ _ _ _
       refine wp_ret ?_
       try simp only [Exit.then, Exit.inBlock]
       exact bodyPost_ret (v := (.bool true)) ((results_tmp rfl _ _ _).trans (by rw [h4_67])) F67.defers ⟨rfl, _, _, (by rw [if_pos hq]; exact Bw_10), sw_10, nw_10, K_10⟩
     · refine wp_cond_false (h60_59.trans (by rw [decide_eq_false hq])) ?_
       refine wp_skip ?_
       change Code.wp _ _ _ _ _
       refine wp_sr ?_
       refine wl_pq F59 (ex_as (v := (.bool true)) rfl) fun a60 u60 F60 h4_60 => ?_
       change Code.wp _ _ _ _ _
       refine wp_ret ?_
       try simp only [Exit.then, Exit.inBlock]
       exact bodyPost_ret (v := (.bool true)) ((results_tmp rfl _ _ _).trans (by rw [h4_60])) F60.defers ⟨rfl, _, _, (by rw [if_neg hq]; exact Bw_9), sw_9, nw_9, K_9⟩
   · obtain ⟨gB, hgB⟩ : ∃ g, w3.heap.size = g := ⟨_, rfl⟩
     have ne_w_B : wb ≠ gB := by have := Bw_3.lt; omega
     have ne_3_B : g3 ≠ gB := by have := B3_3.lt; omega
     have ne_A_B : gA ≠ gB := by have := BA_3.lt; omega
     obtain ⟨w4, hr4, BB_4, G4, hs4⟩ := bs_run (op := Instr.buildSlice 49 1 #[(0, (.int .u64 (m + 1 : Nat)))]) (n := 1) (T := 34) (cs := #[(.int .u64 (m + 1 : Nat))]) hgB (fun _ => by kernel_rfl)
     have Bw_4 := Bw_3.gn G4
     have B3_4 := B3_3.gn G4
     have BA_4 := BA_3.gn G4
     have K_4 := K_3.nw hw G4
     have sw_4 := sw_3.kt (Kt.of_none G4) (by decide) (by decide) (by decide)
     have nw_4 := nw_3.kt (Kt.of_none G4) (by decide)
     have ks_4 := ks_3.kt (Kt.of_none G4) (by decide)
     have ms_4 := ms_3.kt (Kt.of_none G4) (by decide)
     refine tkl_p rfl (ex_bs (vs := #[(0, (.int .u64 (m + 1 : Nat)))]) (by have e0 : a44.eval (.tmp 46) = (.int .u64 (m + 1 : Nat)) := (u44.w h46_43); simp only [List.map_toArray, List.map_cons, List.map_nil, e0]) hr4) (.inr ⟨Bw_4, B3_4⟩) F44.l fun a45 u45 (h47_45 : a45.tmps.getD 47 undef = (.slice (some ⟨gB, 0, none⟩) 1 1)) => ?_
     have F45 := F44.pt u45
     clear K_3 sw_3 nw_3 hgB
     refine ltree1 (j := 8) (by kernel_rfl) ?_
     obtain ⟨v5, w5, hr5, sw_5, G5⟩ := sw_4.push (s := s) (kp := kp2) (mp := mp2) (ty := 48) (c := 1) BA_4 ks_4 ms_4 (K_4.le hw) (by omega)
     have KR5 := sw_4.ktof G5
     have Bw_5 := Bw_4.kt KR5 (by decide)
     have B3_5 := B3_4.grown G5 hf3
     have BB_5 := BB_4.kt KR5 (by decide)
     have K_5 := sw_4.ktr K_4 hw (Nat.le_refl _) (by decide) G5
     have nw_5 := nw_4.kt KR5 (by decide)
     have ks_5 := ks_4.kt KR5 (by decide)
     have ms_5 := ms_4.kt KR5 (by decide)
     have h38_45 := u45.w (u44.w (u43.w (u42.w (u41.w (u40.w (u39.w (u38.w h38_37)))))))
     refine tkl_p rfl (ex_app h38_45 (u45.w h40_44) hr5) (.inr ⟨Bw_5, B3_5⟩) F45.l fun a46 u46 (h41_46 : a46.tmps.getD 41 undef = v5) => ?_
     have F46 := F45.pt u46
     clear KR5 K_4 sw_4 nw_4
     refine ltree1 (j := 15) (by kernel_rfl) ?_
     obtain ⟨v6, w6, hr6, nw_6, G6⟩ := nw_5.push (m := (m + 1)) (ty := 49) (c := 1) BB_5 (K_5.le hw) (by omega)
     have KR6 := nw_5.ktof G6
     have Bw_6 := Bw_5.kt KR6 (by decide)
     have B3_6 := B3_5.kt KR6 (by decide)
     have K_6 := nw_5.ktr K_5 hw (Nat.le_refl _) (by decide) G6
     have sw_6 := sw_5.kt KR6 (by decide) (by decide) (by decide)
     have ks_6 := ks_5.kt KR6 (by decide)
     have ms_6 := ms_5.kt KR6 (by decide)
     have h45_46 := u46.w (u45.w (u44.w (u43.w h45_42)))
     refine tkl_p rfl (ex_app h45_46 (u46.w h47_45) hr6) (.inr ⟨Bw_6, B3_6⟩) F46.l fun a47 u47 (h48_47 : a47.tmps.getD 48 undef = v6) => ?_
     have F47 := F46.pt u47
     clear KR6 K_5 sw_5 nw_5
     have h33_47 := u47.w (u46.w (u45.w (u44.w (u43.w (u42.w (u41.w (u40.w (u39.w (u38.w (u37.w (u36.w (u35.w (u34.w (u33.w h33_32))))))))))))))
     refine ltree_free (j := 16) rfl (by kernel_rfl) (by kernel_rfl) (by kernel_rfl) (by decide) (fun w => ex_nil (ad := ⟨wb, 0, none⟩) h33_47) (.inr ⟨Bw_6, B3_6⟩) F47.l fun a48 u48 (h49_48 : a48.tmps.getD 49 undef = (.pointer (some ⟨wb, 0, none⟩))) => ?_
     have F48 := F47.pt u48
     refine ltree_free (j := 17) rfl (by kernel_rfl) (by kernel_rfl) (by kernel_rfl) (by decide) (fun w => ex_fa (T := 51) (f := 9) (k := 9) (b := wb) (fun _ _ => by kernel_rfl) h49_48) (.inr ⟨Bw_6, B3_6⟩) F48.l fun a49 u49 (h50_49 : a49.tmps.getD 50 undef = (.pointer (some ⟨wb, 9, none⟩))) => ?_
     have F49 := F48.pt u49
     refine ltree1 (j := 18) (by kernel_rfl) ?_
     obtain ⟨w7, hr7, Bw_7, G7⟩ := st_run (T := 48) (o := 9) (v := v5) (cs' := #[(.int .i64 p), (.int .i64 wr), (.int .i64 vr), (.int .u64 sq), (.int .i64 tg), (.bool c), (.bool i), (pto kp), (pto mp), v5, nv]) (fun _ => by kernel_rfl) Bw_6 sw_6.one (by simp) rfl
     have B3_7 := B3_6.gk G7 (Ne.symm ne_w_3)
     have K_7 := K_6.blk hw Bw_6 hb (by decide) G7
     have sw_7 := sw_6.kt (Kt.of_blk Bw_6 G7) (by decide) (by decide) (by decide)
     have nw_7 := nw_6.kt (Kt.of_blk Bw_6 G7) (by decide)
     have ks_7 := ks_6.kt (Kt.of_blk Bw_6 G7) (by decide)
     have ms_7 := ms_6.kt (Kt.of_blk Bw_6 G7) (by decide)
     have h41_49 := u49.w (u48.w (u47.w h41_46))
     refine tkl_n rfl (ex_st h50_49 h41_49 hr7) (.inl (by kernel_rfl)) ?_
     clear K_6 sw_6 nw_6
     have h34_49 := u49.w (u48.w (u47.w (u46.w (u45.w (u44.w (u43.w (u42.w (u41.w (u40.w (u39.w (u38.w (u37.w (u36.w (u35.w (u34.w h34_33)))))))))))))))
     refine ltree_free (j := 19) rfl (by kernel_rfl) (by kernel_rfl) (by kernel_rfl) (by decide) (fun w => ex_nil (ad := ⟨wb, 0, none⟩) h34_49) (.inl (by kernel_rfl)) F49.l fun a50 u50 (h51_50 : a50.tmps.getD 51 undef = (.pointer (some ⟨wb, 0, none⟩))) => ?_
     have F50 := F49.pt u50
     refine ltree_free (j := 20) rfl (by kernel_rfl) (by kernel_rfl) (by kernel_rfl) (by decide) (fun w => ex_fa (T := 51) (f := 10) (k := 10) (b := wb) (fun _ _ => by kernel_rfl) h51_50) (.inl (by kernel_rfl)) F50.l fun a51 u51 (h52_51 : a51.tmps.getD 52 undef = (.pointer (some ⟨wb, 10, none⟩))) => ?_
     have F51 := F50.pt u51
     refine ltree1 (j := 21) (by kernel_rfl) ?_
     obtain ⟨w8, hr8, Bw_8, G8⟩ := st_run (T := 49) (o := 10) (v := v6) (cs' := #[(.int .i64 p), (.int .i64 wr), (.int .i64 vr), (.int .u64 sq), (.int .i64 tg), (.bool c), (.bool i), (pto kp), (pto mp), v5, v6]) (fun _ => by kernel_rfl) Bw_7 nw_7.one (by simp) rfl
     have B3_8 := B3_7.gk G8 (Ne.symm ne_w_3)
     have K_8 := K_7.blk hw Bw_7 hb (by decide) G8
     have sw_8 := sw_7.kt (Kt.of_blk Bw_7 G8) (by decide) (by decide) (by decide)
     have nw_8 := nw_7.kt (Kt.of_blk Bw_7 G8) (by decide)
     have ks_8 := ks_7.kt (Kt.of_blk Bw_7 G8) (by decide)
     have ms_8 := ms_7.kt (Kt.of_blk Bw_7 G8) (by decide)
     have h48_51 := u51.w (u50.w (u49.w (u48.w h48_47)))
     refine tkl_n rfl (ex_st h52_51 h48_51 hr8) (.inl (by kernel_rfl)) ?_
     clear K_7 sw_7 nw_7
     refine ltree0 (by kernel_rfl) ?_
     change Code.wp _ _ _ _ _
     refine wp_seq ?_
     refine wp_seq ?_
     obtain ⟨w9, hw9⟩ : ∃ w, w = w8.drew := ⟨_, rfl⟩
     have G9 : w8.grownBy w9 none := hw9 ▸ grown_drew _
     have Bw_9 := Bw_8.gn G9
     have B3_9 := B3_8.gn G9
     have K_9 := K_8.nw hw G9
     have sw_9 := sw_8.kt (Kt.of_none G9) (by decide) (by decide) (by decide)
     have nw_9 := nw_8.kt (Kt.of_none G9) (by decide)
     have ks_9 := ks_8.kt (Kt.of_none G9) (by decide)
     have ms_9 := ms_8.kt (Kt.of_none G9) (by decide)
     refine rg_still hw9 hmix (by kernel_rfl) ?_
     clear K_8 sw_8 nw_8
     have h0_51 := u51.w (u50.w (u49.w (u48.w (u47.w (u46.w (u45.w (u44.w (u43.w (u42.w (u41.w (u40.w (u39.w h0_38))))))))))))
     refine st_pq F51 (ex_mv h0_51) fun a52 u52 F52 h53_52 => ?_
     refine st_pq F52 (ex_nil h53_52) fun a53 u53 F53 h54_53 => ?_
     refine st_pq F53 (ex_fb 4 h54_53) fun a54 u54 F54 h55_54 => ?_
     refine st_pq F54 (ex_le (v := (.int .i64 tg)) h55_54 (Bw_9.cell 4)) fun a55 u55 F55 h56_55 => ?_
     refine st_pq F55 (ex_bin (vy := (.int .i64 8)) (v := (.int .i64 (tg * 8 : Nat))) h56_55 rfl (bo_mul8 tg (by omega) _)) fun a56 u56 F56 h57_56 => ?_
     have h3_56 := u56.w (u55.w (u54.w (u53.w (u52.w (u51.w (u50.w (u49.w (u48.w (u47.w (u46.w (u45.w (u44.w (u43.w (u42.w (u41.w (u40.w (u39.w (u38.w h3_37))))))))))))))))))
     refine st_pq F56 (ex_fb 2 h3_56) fun a57 u57 F57 h58_57 => ?_
     refine st_pq F57 (ex_le (v := (.int .i64 s.e)) h58_57 (B3_9.cell 2)) fun a58 u58 F58 h59_58 => ?_
     refine st_pq F58 (ex_bin (v := (.bool (decide (tg * 8 < s.e)))) (u58.w (u57.w h57_56)) h59_58 (bo_ltn (tg * 8) s.e _)) fun a59 u59 F59 h60_59 => ?_
     change Code.wp _ _ _ _ _
     by_cases hq : tg * 8 < s.e
     · refine wp_cond_true (h60_59.trans (by rw [decide_eq_true hq])) ?_
       refine rg_list ?_
       have h0_59 := u59.w (u58.w (u57.w (u56.w (u55.w (u54.w (u53.w (u52.w h0_51)))))))
       refine wl_pq F59 (ex_mv h0_59) fun a60 u60 F60 h61_60 => ?_
       have h3_60 := u60.w (u59.w (u58.w (u57.w h3_56)))
       refine wl_pq F60 (ex_fb 2 h3_60) fun a61 u61 F61 h62_61 => ?_
       refine wl_pq F61 (ex_le (v := (.int .i64 s.e)) h62_61 (B3_9.cell 2)) fun a62 u62 F62 h63_62 => ?_
       refine wl_pq F62 (ex_bin (vy := (.int .i64 7)) (v := (.int .i64 (s.e + 7 : Nat))) h63_62 rfl (bo_addn s.e 7 (by omega) _)) fun a63 u63 F63 h64_63 => ?_
       refine wl_pq F63 (ex_bin (vy := (.int .i64 8)) (v := (.int .i64 ((s.e + 7) / 8 : Nat))) h64_63 rfl (bo_quo_8 (s.e + 7) (by omega) _)) fun a64 u64 F64 h65_64 => ?_
       have h61_64 := u64.w (u63.w (u62.w (u61.w h61_60)))
       refine wl_pq F64 (ex_nil h61_64) fun a65 u65 F65 h66_65 => ?_
       refine wl_pq F65 (ex_fb 4 h66_65) fun a66 u66 F66 h67_66 => ?_
       obtain ⟨w10, hr10, Bw_10, G10⟩ := st_run (T := 3) (o := 4) (v := (.int .i64 ((s.e + 7) / 8 : Nat))) (cs' := #[(.int .i64 p), (.int .i64 wr), (.int .i64 vr), (.int .u64 sq), (.int .i64 ((s.e + 7) / 8 : Nat)), (.bool c), (.bool i), (pto kp), (pto mp), v5, v6]) (fun _ => by kernel_rfl) Bw_9 rfl (Nat.le_of_ble_eq_true rfl) rfl
       have B3_10 := B3_9.gk G10 (Ne.symm ne_w_3)
       have K_10 := K_9.blk hw Bw_9 hb (by decide) G10
       have sw_10 := sw_9.kt (Kt.of_blk Bw_9 G10) (by decide) (by decide) (by decide)
       have nw_10 := nw_9.kt (Kt.of_blk Bw_9 G10) (by decide)
       have ks_10 := ks_9.kt (Kt.of_blk Bw_9 G10) (by decide)
       have ms_10 := ms_9.kt (Kt.of_blk Bw_9 G10) (by decide)
       refine wl_n (ex_st h67_66 (u66.w (u65.w h65_64)) hr10) ?_
       clear K_9 sw_9 nw_9
       change Code.wp _ _ _ _ _
       refine wp_sr ?_
       refine wl_pq F66 (ex_as (v := (.bool true)) rfl) fun a67 u67 F67 h4_67 => ?_
       change Code.wp _ _ _ _ _
       refine wp_ret ?_
       try simp only [Exit.then, Exit.inBlock]
       exact bodyPost_ret (v := (.bool true)) ((results_tmp rfl _ _ _).trans (by rw [h4_67])) F67.defers ⟨rfl, _, _, (by rw [if_pos hq]; exact Bw_10), sw_10, nw_10, K_10⟩
     · refine wp_cond_false (h60_59.trans (by rw [decide_eq_false hq])) ?_
       refine wp_skip ?_
       change Code.wp _ _ _ _ _
       refine wp_sr ?_
       refine wl_pq F59 (ex_as (v := (.bool true)) rfl) fun a60 u60 F60 h4_60 => ?_
       change Code.wp _ _ _ _ _
       refine wp_ret ?_
       try simp only [Exit.then, Exit.inBlock]
       exact bodyPost_ret (v := (.bool true)) ((results_tmp rfl _ _ _).trans (by rw [h4_60])) F60.defers ⟨rfl, _, _, (by rw [if_neg hq]; exact Bw_9), sw_9, nw_9, K_9⟩
 · obtain ⟨gB, hgB⟩ : ∃ g, w2.heap.size = g := ⟨_, rfl⟩
   have ne_w_B : wb ≠ gB := by have := Bw_2.lt; omega
   have ne_3_B : g3 ≠ gB := by have := B3_2.lt; omega
   obtain ⟨w3, hr3, BB_3, G3, hs3⟩ := bs_run (op := Instr.buildSlice 49 1 #[(0, (.int .u64 (m + 1 : Nat)))]) (n := 1) (T := 34) (cs := #[(.int .u64 (m + 1 : Nat))]) hgB (fun _ => by kernel_rfl)
   have Bw_3 := Bw_2.gn G3
   have B3_3 := B3_2.gn G3
   have K_3 := K_2.nw hw G3
   have sw_3 := sw_2.kt (Kt.of_none G3) (by decide) (by decide) (by decide)
   have nw_3 := nw_2.kt (Kt.of_none G3) (by decide)
   have ks_3 := ks_2.kt (Kt.of_none G3) (by decide)
   have ms_3 := ms_2.kt (Kt.of_none G3) (by decide)
   refine tkl_p rfl (ex_bs (vs := #[(0, (.int .u64 (m + 1 : Nat)))]) (by have e0 : a43.eval (.tmp 46) = (.int .u64 (m + 1 : Nat)) := h46_43; simp only [List.map_toArray, List.map_cons, List.map_nil, e0]) hr3) (.inr ⟨Bw_3, B3_3⟩) F43.l fun a44 u44 (h47_44 : a44.tmps.getD 47 undef = (.slice (some ⟨gB, 0, none⟩) 1 1)) => ?_
   have F44 := F43.pt u44
   clear K_2 sw_2 nw_2 hgB
   refine ltree1 (j := 7) (by kernel_rfl) ?_
   obtain ⟨gA, hgA⟩ : ∃ g, w3.heap.size = g := ⟨_, rfl⟩
   have ne_w_A : wb ≠ gA := by have := Bw_3.lt; omega
   have ne_3_A : g3 ≠ gA := by have := B3_3.lt; omega
   have ne_B_A : gB ≠ gA := by have := BB_3.lt; omega
   obtain ⟨w4, hr4, BA_4, G4, hs4⟩ := bs_run (op := Instr.buildSlice 48 1 #[(0, (.agg #[(.string s.title), (.string s.uri), (.int .i64 s.e), (.int .i64 s.li), (.int .i64 s.off), (pto kp2), (pto mp2), (.bool s.disc), (.string s.date)]))]) (n := 1) (T := 32) (cs := #[(.string s.title), (.string s.uri), (.int .i64 s.e), (.int .i64 s.li), (.int .i64 s.off), (pto kp2), (pto mp2), (.bool s.disc), (.string s.date)]) hgA (fun _ => by kernel_rfl)
   have Bw_4 := Bw_3.gn G4
   have B3_4 := B3_3.gn G4
   have BB_4 := BB_3.gn G4
   have K_4 := K_3.nw hw G4
   have sw_4 := sw_3.kt (Kt.of_none G4) (by decide) (by decide) (by decide)
   have nw_4 := nw_3.kt (Kt.of_none G4) (by decide)
   have ks_4 := ks_3.kt (Kt.of_none G4) (by decide)
   have ms_4 := ms_3.kt (Kt.of_none G4) (by decide)
   have h39_44 := u44.w (u43.w (u42.w (u41.w (u40.w (u39.w h39_38)))))
   refine tkl_p rfl (ex_bs (vs := #[(0, (.agg #[(.string s.title), (.string s.uri), (.int .i64 s.e), (.int .i64 s.li), (.int .i64 s.off), (pto kp2), (pto mp2), (.bool s.disc), (.string s.date)]))]) (by have e0 : a44.eval (.tmp 39) = (.agg #[(.string s.title), (.string s.uri), (.int .i64 s.e), (.int .i64 s.li), (.int .i64 s.off), (pto kp2), (pto mp2), (.bool s.disc), (.string s.date)]) := h39_44; simp only [List.map_toArray, List.map_cons, List.map_nil, e0]) hr4) (.inr ⟨Bw_4, B3_4⟩) F44.l fun a45 u45 (h40_45 : a45.tmps.getD 40 undef = (.slice (some ⟨gA, 0, none⟩) 1 1)) => ?_
   have F45 := F44.pt u45
   clear K_3 sw_3 nw_3 hgA
   refine ltree1 (j := 8) (by kernel_rfl) ?_
   obtain ⟨v5, w5, hr5, sw_5, G5⟩ := sw_4.push (s := s) (kp := kp2) (mp := mp2) (ty := 48) (c := 1) BA_4 ks_4 ms_4 (K_4.le hw) (by omega)
   have KR5 := sw_4.ktof G5
   have Bw_5 := Bw_4.kt KR5 (by decide)
   have B3_5 := B3_4.grown G5 hf3
   have BB_5 := BB_4.kt KR5 (by decide)
   have K_5 := sw_4.ktr K_4 hw (Nat.le_refl _) (by decide) G5
   have nw_5 := nw_4.kt KR5 (by decide)
   have ks_5 := ks_4.kt KR5 (by decide)
   have ms_5 := ms_4.kt KR5 (by decide)
   have h38_45 := u45.w (u44.w (u43.w (u42.w (u41.w (u40.w (u39.w (u38.w h38_37)))))))
   refine tkl_p rfl (ex_app h38_45 h40_45 hr5) (.inr ⟨Bw_5, B3_5⟩) F45.l fun a46 u46 (h41_46 : a46.tmps.getD 41 undef = v5) => ?_
   have F46 := F45.pt u46
   clear KR5 K_4 sw_4 nw_4
   refine ltree1 (j := 15) (by kernel_rfl) ?_
   obtain ⟨v6, w6, hr6, nw_6, G6⟩ := nw_5.push (m := (m + 1)) (ty := 49) (c := 1) BB_5 (K_5.le hw) (by omega)
   have KR6 := nw_5.ktof G6
   have Bw_6 := Bw_5.kt KR6 (by decide)
   have B3_6 := B3_5.kt KR6 (by decide)
   have K_6 := nw_5.ktr K_5 hw (Nat.le_refl _) (by decide) G6
   have sw_6 := sw_5.kt KR6 (by decide) (by decide) (by decide)
   have ks_6 := ks_5.kt KR6 (by decide)
   have ms_6 := ms_5.kt KR6 (by decide)
   have h45_46 := u46.w (u45.w (u44.w (u43.w h45_42)))
   refine tkl_p rfl (ex_app h45_46 (u46.w (u45.w h47_44)) hr6) (.inr ⟨Bw_6, B3_6⟩) F46.l fun a47 u47 (h48_47 : a47.tmps.getD 48 undef = v6) => ?_
   have F47 := F46.pt u47
   clear KR6 K_5 sw_5 nw_5
   have h33_47 := u47.w (u46.w (u45.w (u44.w (u43.w (u42.w (u41.w (u40.w (u39.w (u38.w (u37.w (u36.w (u35.w (u34.w (u33.w h33_32))))))))))))))
   refine ltree_free (j := 16) rfl (by kernel_rfl) (by kernel_rfl) (by kernel_rfl) (by decide) (fun w => ex_nil (ad := ⟨wb, 0, none⟩) h33_47) (.inr ⟨Bw_6, B3_6⟩) F47.l fun a48 u48 (h49_48 : a48.tmps.getD 49 undef = (.pointer (some ⟨wb, 0, none⟩))) => ?_
   have F48 := F47.pt u48
   refine ltree_free (j := 17) rfl (by kernel_rfl) (by kernel_rfl) (by kernel_rfl) (by decide) (fun w => ex_fa (T := 51) (f := 9) (k := 9) (b := wb) (fun _ _ => by kernel_rfl) h49_48) (.inr ⟨Bw_6, B3_6⟩) F48.l fun a49 u49 (h50_49 : a49.tmps.getD 50 undef = (.pointer (some ⟨wb, 9, none⟩))) => ?_
   have F49 := F48.pt u49
   refine ltree1 (j := 18) (by kernel_rfl) ?_
   obtain ⟨w7, hr7, Bw_7, G7⟩ := st_run (T := 48) (o := 9) (v := v5) (cs' := #[(.int .i64 p), (.int .i64 wr), (.int .i64 vr), (.int .u64 sq), (.int .i64 tg), (.bool c), (.bool i), (pto kp), (pto mp), v5, nv]) (fun _ => by kernel_rfl) Bw_6 sw_6.one (by simp) rfl
   have B3_7 := B3_6.gk G7 (Ne.symm ne_w_3)
   have K_7 := K_6.blk hw Bw_6 hb (by decide) G7
   have sw_7 := sw_6.kt (Kt.of_blk Bw_6 G7) (by decide) (by decide) (by decide)
   have nw_7 := nw_6.kt (Kt.of_blk Bw_6 G7) (by decide)
   have ks_7 := ks_6.kt (Kt.of_blk Bw_6 G7) (by decide)
   have ms_7 := ms_6.kt (Kt.of_blk Bw_6 G7) (by decide)
   have h41_49 := u49.w (u48.w (u47.w h41_46))
   refine tkl_n rfl (ex_st h50_49 h41_49 hr7) (.inl (by kernel_rfl)) ?_
   clear K_6 sw_6 nw_6
   have h34_49 := u49.w (u48.w (u47.w (u46.w (u45.w (u44.w (u43.w (u42.w (u41.w (u40.w (u39.w (u38.w (u37.w (u36.w (u35.w (u34.w h34_33)))))))))))))))
   refine ltree_free (j := 19) rfl (by kernel_rfl) (by kernel_rfl) (by kernel_rfl) (by decide) (fun w => ex_nil (ad := ⟨wb, 0, none⟩) h34_49) (.inl (by kernel_rfl)) F49.l fun a50 u50 (h51_50 : a50.tmps.getD 51 undef = (.pointer (some ⟨wb, 0, none⟩))) => ?_
   have F50 := F49.pt u50
   refine ltree_free (j := 20) rfl (by kernel_rfl) (by kernel_rfl) (by kernel_rfl) (by decide) (fun w => ex_fa (T := 51) (f := 10) (k := 10) (b := wb) (fun _ _ => by kernel_rfl) h51_50) (.inl (by kernel_rfl)) F50.l fun a51 u51 (h52_51 : a51.tmps.getD 52 undef = (.pointer (some ⟨wb, 10, none⟩))) => ?_
   have F51 := F50.pt u51
   refine ltree1 (j := 21) (by kernel_rfl) ?_
   obtain ⟨w8, hr8, Bw_8, G8⟩ := st_run (T := 49) (o := 10) (v := v6) (cs' := #[(.int .i64 p), (.int .i64 wr), (.int .i64 vr), (.int .u64 sq), (.int .i64 tg), (.bool c), (.bool i), (pto kp), (pto mp), v5, v6]) (fun _ => by kernel_rfl) Bw_7 nw_7.one (by simp) rfl
   have B3_8 := B3_7.gk G8 (Ne.symm ne_w_3)
   have K_8 := K_7.blk hw Bw_7 hb (by decide) G8
   have sw_8 := sw_7.kt (Kt.of_blk Bw_7 G8) (by decide) (by decide) (by decide)
   have nw_8 := nw_7.kt (Kt.of_blk Bw_7 G8) (by decide)
   have ks_8 := ks_7.kt (Kt.of_blk Bw_7 G8) (by decide)
   have ms_8 := ms_7.kt (Kt.of_blk Bw_7 G8) (by decide)
   have h48_51 := u51.w (u50.w (u49.w (u48.w h48_47)))
   refine tkl_n rfl (ex_st h52_51 h48_51 hr8) (.inl (by kernel_rfl)) ?_
   clear K_7 sw_7 nw_7
   refine ltree0 (by kernel_rfl) ?_
   change Code.wp _ _ _ _ _
   refine wp_seq ?_
   refine wp_seq ?_
   obtain ⟨w9, hw9⟩ : ∃ w, w = w8.drew := ⟨_, rfl⟩
   have G9 : w8.grownBy w9 none := hw9 ▸ grown_drew _
   have Bw_9 := Bw_8.gn G9
   have B3_9 := B3_8.gn G9
   have K_9 := K_8.nw hw G9
   have sw_9 := sw_8.kt (Kt.of_none G9) (by decide) (by decide) (by decide)
   have nw_9 := nw_8.kt (Kt.of_none G9) (by decide)
   have ks_9 := ks_8.kt (Kt.of_none G9) (by decide)
   have ms_9 := ms_8.kt (Kt.of_none G9) (by decide)
   refine rg_still hw9 hmix (by kernel_rfl) ?_
   clear K_8 sw_8 nw_8
   have h0_51 := u51.w (u50.w (u49.w (u48.w (u47.w (u46.w (u45.w (u44.w (u43.w (u42.w (u41.w (u40.w (u39.w h0_38))))))))))))
   refine st_pq F51 (ex_mv h0_51) fun a52 u52 F52 h53_52 => ?_
   refine st_pq F52 (ex_nil h53_52) fun a53 u53 F53 h54_53 => ?_
   refine st_pq F53 (ex_fb 4 h54_53) fun a54 u54 F54 h55_54 => ?_
   refine st_pq F54 (ex_le (v := (.int .i64 tg)) h55_54 (Bw_9.cell 4)) fun a55 u55 F55 h56_55 => ?_
   refine st_pq F55 (ex_bin (vy := (.int .i64 8)) (v := (.int .i64 (tg * 8 : Nat))) h56_55 rfl (bo_mul8 tg (by omega) _)) fun a56 u56 F56 h57_56 => ?_
   have h3_56 := u56.w (u55.w (u54.w (u53.w (u52.w (u51.w (u50.w (u49.w (u48.w (u47.w (u46.w (u45.w (u44.w (u43.w (u42.w (u41.w (u40.w (u39.w (u38.w h3_37))))))))))))))))))
   refine st_pq F56 (ex_fb 2 h3_56) fun a57 u57 F57 h58_57 => ?_
   refine st_pq F57 (ex_le (v := (.int .i64 s.e)) h58_57 (B3_9.cell 2)) fun a58 u58 F58 h59_58 => ?_
   refine st_pq F58 (ex_bin (v := (.bool (decide (tg * 8 < s.e)))) (u58.w (u57.w h57_56)) h59_58 (bo_ltn (tg * 8) s.e _)) fun a59 u59 F59 h60_59 => ?_
   change Code.wp _ _ _ _ _
   by_cases hq : tg * 8 < s.e
   · refine wp_cond_true (h60_59.trans (by rw [decide_eq_true hq])) ?_
     refine rg_list ?_
     have h0_59 := u59.w (u58.w (u57.w (u56.w (u55.w (u54.w (u53.w (u52.w h0_51)))))))
     refine wl_pq F59 (ex_mv h0_59) fun a60 u60 F60 h61_60 => ?_
     have h3_60 := u60.w (u59.w (u58.w (u57.w h3_56)))
     refine wl_pq F60 (ex_fb 2 h3_60) fun a61 u61 F61 h62_61 => ?_
     refine wl_pq F61 (ex_le (v := (.int .i64 s.e)) h62_61 (B3_9.cell 2)) fun a62 u62 F62 h63_62 => ?_
     refine wl_pq F62 (ex_bin (vy := (.int .i64 7)) (v := (.int .i64 (s.e + 7 : Nat))) h63_62 rfl (bo_addn s.e 7 (by omega) _)) fun a63 u63 F63 h64_63 => ?_
     refine wl_pq F63 (ex_bin (vy := (.int .i64 8)) (v := (.int .i64 ((s.e + 7) / 8 : Nat))) h64_63 rfl (bo_quo_8 (s.e + 7) (by omega) _)) fun a64 u64 F64 h65_64 => ?_
     have h61_64 := u64.w (u63.w (u62.w (u61.w h61_60)))
     refine wl_pq F64 (ex_nil h61_64) fun a65 u65 F65 h66_65 => ?_
     refine wl_pq F65 (ex_fb 4 h66_65) fun a66 u66 F66 h67_66 => ?_
     obtain ⟨w10, hr10, Bw_10, G10⟩ := st_run (T := 3) (o := 4) (v := (.int .i64 ((s.e + 7) / 8 : Nat))) (cs' := #[(.int .i64 p), (.int .i64 wr), (.int .i64 vr), (.int .u64 sq), (.int .i64 ((s.e + 7) / 8 : Nat)), (.bool c), (.bool i), (pto kp), (pto mp), v5, v6]) (fun _ => by kernel_rfl) Bw_9 rfl (Nat.le_of_ble_eq_true rfl) rfl
     have B3_10 := B3_9.gk G10 (Ne.symm ne_w_3)
     have K_10 := K_9.blk hw Bw_9 hb (by decide) G10
     have sw_10 := sw_9.kt (Kt.of_blk Bw_9 G10) (by decide) (by decide) (by decide)
     have nw_10 := nw_9.kt (Kt.of_blk Bw_9 G10) (by decide)
     have ks_10 := ks_9.kt (Kt.of_blk Bw_9 G10) (by decide)
     have ms_10 := ms_9.kt (Kt.of_blk Bw_9 G10) (by decide)
     refine wl_n (ex_st h67_66 (u66.w (u65.w h65_64)) hr10) ?_
     clear K_9 sw_9 nw_9
     change Code.wp _ _ _ _ _
     refine wp_sr ?_
     refine wl_pq F66 (ex_as (v := (.bool true)) rfl) fun a67 u67 F67 h4_67 => ?_
     change Code.wp _ _ _ _ _
     refine wp_ret ?_
     try simp only [Exit.then, Exit.inBlock]
     exact bodyPost_ret (v := (.bool true)) ((results_tmp rfl _ _ _).trans (by rw [h4_67])) F67.defers ⟨rfl, _, _, (by rw [if_pos hq]; exact Bw_10), sw_10, nw_10, K_10⟩
   · refine wp_cond_false (h60_59.trans (by rw [decide_eq_false hq])) ?_
     refine wp_skip ?_
     change Code.wp _ _ _ _ _
     refine wp_sr ?_
     refine wl_pq F59 (ex_as (v := (.bool true)) rfl) fun a60 u60 F60 h4_60 => ?_
     change Code.wp _ _ _ _ _
     refine wp_ret ?_
     try simp only [Exit.then, Exit.inBlock]
     exact bodyPost_ret (v := (.bool true)) ((results_tmp rfl _ _ _).trans (by rw [h4_60])) F60.defers ⟨rfl, _, _, (by rw [if_neg hq]; exact Bw_9), sw_9, nw_9, K_9⟩
end Go.Proofs.YtdpebhlkgmopkaaDoor
