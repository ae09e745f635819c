/-
  strconv.FormatFloat at the verb f: as short as can be, and with three digits.
-/
import Derived.Test.YtlphcidpaidclaaGreatDoorFfj
import Derived.Laws.MakeOwn
import Derived.Test.YtlphcidpaidclaaGreatDoorFlo
namespace Go.Proofs.YtlphcidpaidclaaGreatDoor
open Go.RowKit
set_option maxRecDepth 100000
theorem mk8_run {w : World} {g : Nat} (hg : w.heap.size = g) :
    ∃ w', (Instr.makeSlice 23 (.int .i64 0) (.int .i64 24)).run Tryz.prog w = .ok (.slice (some ⟨g, 0, none⟩) 0 24) w' ∧ Blk w' g 5 (Array.replicate 24 (.int .u8 0)) ∧ w.grownBy w' none ∧ w'.heap.size = g + 1 := by
  subst hg
  have h : (Instr.makeSlice 23 (.int .i64 0) (.int .i64 24)).run Tryz.prog w = .ok (.slice (some ⟨w.heap.size, 0, none⟩) 0 24) (w.alloc (.cells (Array.replicate 24 (.int .u8 0)) 5)) := by kernel_rfl
  exact ⟨_, h, Blk.new rfl, grown_alloc _ _, by simp⟩
theorem BRow.start {w : World} {g B : Nat} (h : Blk w g 5 (Array.replicate 24 (.int .u8 0))) (hB : B ≤ g) : BRow w B (.slice (some ⟨g, 0, none⟩) 0 24) [] :=
  ⟨rfl, .inr ⟨g, 24, _, rfl, hB, h, Nat.zero_le _, by decide, by simp, by simp⟩⟩
theorem BRow.str {w : World} {B : Nat} {v : Value} {l : List UInt8} (h : BRow w B v l) : (convert 23 9 v).run Tryz.prog w = .ok (.string (bs l)) w := by
  obtain ⟨h1, h2⟩ := h
  rcases h2 with ⟨rfl, h2⟩ | ⟨r, cap, cur, rfl, hb, hr, hc, hm, hs, ht⟩
  · obtain rfl := List.eq_nil_of_length_eq_zero h2
    kernel_rfl
  · exact run_convert_bytes_back (P := Tryz.prog) w 23 9 5 ⟨r, 0, none⟩ cap l Tryz.underlying23 Tryz.underlying5 Tryz.underlying9 (fun j hj => by
      rw [Lib.add_plain, Nat.zero_add, (show Blk w r 5 cur from hr).cell]
      have h3 : (cur.toList.take (l.length * 1))[j]? = some (.int .u8 l[j].toNat) := by rw [ht]; simp [hj]
      rw [List.getElem?_take, if_pos (by omega)] at h3
      simpa using h3)

theorem ff_any64 {x : Nat} {T : List UInt8} {w0 : World} (ht : TabP w0) (hgt : 7 < w0.heap.size)
    (hcall : ∀ (v0 : Value) (w : World), BRow w w0.heap.size v0 [] → w0.heap.size ≤ w.heap.size → TabP w → Calls Tryz.prog 69 #[v0, .float .f64 x, .int .u8 102, .int .i64 (-1)] w fun e w' => ∃ v, e = .returned v ∧ BRow w' w0.heap.size v T ∧ Below w0.heap.size w w') :
    Calls Tryz.prog 59 #[.float .f64 x, .int .u8 102, .int .i64 (-1), .int .i64 64] w0 fun e w' => e = .returned (.string (bs T)) ∧ w0.grownBy w' none := by
  refine calls_of_wp Tryz.func59 rfl ?_
  generalize hA : Act.mk _ _ = a0
  have F0 : Fz 33 a0 := by subst hA; exact ⟨by simp [Tryz.ntmps59], rfl⟩
  have h0_0 : a0.tmps.getD 0 undef = (.float .f64 x) := by subst hA; exact fr_arg rfl
  have h1_0 : a0.tmps.getD 1 undef = (.int .u8 102) := by subst hA; exact fr_arg rfl
  have h2_0 : a0.tmps.getD 2 undef = (.int .i64 (-1)) := by subst hA; exact fr_arg rfl
  have h3_0 : a0.tmps.getD 3 undef = (.int .i64 64) := by subst hA; exact fr_arg rfl
  clear hA
  have Kp0 := Kp.refl [] w0
  refine wp_seq ?_
  refine rg_list ?_
  refine wl_p (ex_as (v := (.string { data := #[] })) rfl) F0.l fun a1 u1 h8_1 => ?_
  have F1 := F0.pt u1
  change Code.wp _ _ _ _ _
  refine wp_seq ?_
  refine wp_seq ?_
  refine rg_list ?_
  refine wl_p (ex_mv (u1.w h3_0)) F1.l fun a2 u2 h9_2 => ?_
  have F2 := F1.pt u2
  refine wl_p (ex_bin (vy := (.int .i64 32)) (v := (.bool false)) h9_2 rfl (by kernel_rfl)) F2.l fun a3 u3 h10_3 => ?_
  have F3 := F2.pt u3
  change Code.wp _ _ _ _ _
  refine wp_cond_false h10_3 ?_
  refine wp_skip ?_
  change Code.wp _ _ _ _ _
  refine wp_seq ?_
  refine wp_seq ?_
  refine rg_list ?_
  have h3_3 := u3.w (u2.w (u1.w h3_0))
  refine wl_p (ex_mv h3_3) F3.l fun a4 u4 h21_4 => ?_
  have F4 := F3.pt u4
  refine wl_p (ex_bin (vy := (.int .i64 64)) (v := (.bool true)) h21_4 rfl (by kernel_rfl)) F4.l fun a5 u5 h22_5 => ?_
  have F5 := F4.pt u5
  change Code.wp _ _ _ _ _
  refine wp_cond_true h22_5 ?_
  refine wp_seq ?_
  refine rg_list ?_
  have h2_5 := u5.w (u4.w (u3.w (u2.w (u1.w h2_0))))
  refine wl_p (ex_mv h2_5) F5.l fun a6 u6 h23_6 => ?_
  have F6 := F5.pt u6
  refine wl_p (ex_bin (vy := (.int .i64 4)) (v := (.int .i64 3)) h23_6 rfl (by kernel_rfl)) F6.l fun a7 u7 h24_7 => ?_
  have F7 := F6.pt u7
  refine wl_p (ex_bi (w' := w0) (args := #[(.int .i64 3), (.int .i64 24)]) (v := (.int .i64 24)) (arg2 h24_7 rfl) (by kernel_rfl)) F7.l fun a8 u8 h25_8 => ?_
  have F8 := F7.pt u8
  obtain ⟨g14, hg14⟩ : ∃ g, w0.heap.size = g := ⟨_, rfl⟩
  have ge_14 : w0.heap.size ≤ g14 := by have := Kp0.size; omega
  obtain ⟨w1, hr1, B14_1, G1, hs1⟩ := mk8_run hg14 (w := w0)
  have R_1 := BRow.start B14_1 ge_14
  have TP_1 := ht.gn G1 hgt
  have Kp1 := Kp0.new G1
  refine wl_p (ex_ms rfl h25_8 hr1) F8.l fun a9 u9 (h26_9 : a9.tmps.getD 26 undef = (.slice (some ⟨g14, 0, none⟩) 0 24)) => ?_
  have F9 := F8.pt u9
  have h0_9 := u9.w (u8.w (u7.w (u6.w (u5.w (u4.w (u3.w (u2.w (u1.w h0_0))))))))
  refine wl_p (ex_mv h0_9) F9.l fun a10 u10 h27_10 => ?_
  have F10 := F9.pt u10
  have h1_10 := u10.w (u9.w (u8.w (u7.w (u6.w (u5.w (u4.w (u3.w (u2.w (u1.w h1_0)))))))))
  refine wl_p (ex_mv h1_10) F10.l fun a11 u11 h28_11 => ?_
  have F11 := F10.pt u11
  have h2_11 := u11.w (u10.w (u9.w (u8.w (u7.w (u6.w h2_5)))))
  refine wl_p (ex_mv h2_11) F11.l fun a12 u12 h29_12 => ?_
  have F12 := F11.pt u12
  have h26_12 := u12.w (u11.w (u10.w h26_9))
  refine wl_cl (args := #[(.slice (some ⟨g14, 0, none⟩) 0 24), (.float .f64 x), (.int .u8 102), (.int .i64 (-1))]) (R := fun v w' => BRow w' w0.heap.size v T ∧ Below w0.heap.size w1 w') (ex_cl (fun _ _ => by kernel_rfl) (arg4 h26_12 (u12.w (u11.w h27_10)) (u12.w h28_11) h29_12)) ((hcall _ _ R_1 Kp1.size TP_1).mono fun _ _ ⟨v, h1, h2, h3⟩ => ⟨v, h1, h2, h3⟩) F12.l ?_
  rintro vf w2 ⟨Rf, Blf⟩
  have hstr := Rf.str
  intro a13 u13 h30_13
  have F13 := F12.pt u13
  refine wl_p (ex_conv (vx := vf) (v := (.string (bs T))) h30_13 (hstr)) F13.l fun a14 u14 h31_14 => ?_
  have F14 := F13.pt u14
  refine wl_p (ex_as h31_14) F14.l fun a15 u15 h8_15 => ?_
  have F15 := F14.pt u15
  change Code.wp _ _ _ _ _
  refine wp_ret ?_
  try simp only [Exit.then, Exit.inBlock]
  exact bodyPost_ret (v := .string (bs T)) ((results_tmp rfl _ _ _).trans (by rw [h8_15])) F15.defers ⟨rfl, below_grown (Kp1.below.trans Blf)⟩
theorem ff_any32 {x x2 : Nat} {T : List UInt8} {w0 : World} (hcf : floatToFloatBits .f64 x .f32 = some x2) (ht : TabP w0) (hgt : 7 < w0.heap.size)
    (hcall : ∀ (v0 : Value) (w : World), BRow w w0.heap.size v0 [] → w0.heap.size ≤ w.heap.size → TabP w → Calls Tryz.prog 68 #[v0, .float .f32 x2, .int .u8 102, .int .i64 3] w fun e w' => ∃ v, e = .returned v ∧ BRow w' w0.heap.size v T ∧ Below w0.heap.size w w') :
    Calls Tryz.prog 59 #[.float .f64 x, .int .u8 102, .int .i64 3, .int .i64 32] w0 fun e w' => e = .returned (.string (bs T)) ∧ w0.grownBy w' none := by
  refine calls_of_wp Tryz.func59 rfl ?_
  generalize hA : Act.mk _ _ = a0
  have F0 : Fz 33 a0 := by subst hA; exact ⟨by simp [Tryz.ntmps59], rfl⟩
  have h0_0 : a0.tmps.getD 0 undef = (.float .f64 x) := by subst hA; exact fr_arg rfl
  have h1_0 : a0.tmps.getD 1 undef = (.int .u8 102) := by subst hA; exact fr_arg rfl
  have h2_0 : a0.tmps.getD 2 undef = (.int .i64 3) := by subst hA; exact fr_arg rfl
  have h3_0 : a0.tmps.getD 3 undef = (.int .i64 32) := by subst hA; exact fr_arg rfl
  clear hA
  have Kp0 := Kp.refl [] w0
  refine wp_seq ?_
  refine rg_list ?_
  refine wl_p (ex_as (v := (.string { data := #[] })) rfl) F0.l fun a1 u1 h8_1 => ?_
  have F1 := F0.pt u1
  change Code.wp _ _ _ _ _
  refine wp_seq ?_
  refine wp_seq ?_
  refine rg_list ?_
  refine wl_p (ex_mv (u1.w h3_0)) F1.l fun a2 u2 h9_2 => ?_
  have F2 := F1.pt u2
  refine wl_p (ex_bin (vy := (.int .i64 32)) (v := (.bool true)) h9_2 rfl (by kernel_rfl)) F2.l fun a3 u3 h10_3 => ?_
  have F3 := F2.pt u3
  change Code.wp _ _ _ _ _
  refine wp_cond_true h10_3 ?_
  refine wp_seq ?_
  refine rg_list ?_
  have h2_3 := u3.w (u2.w (u1.w h2_0))
  refine wl_p (ex_mv h2_3) F3.l fun a4 u4 h11_4 => ?_
  have F4 := F3.pt u4
  refine wl_p (ex_bin (vy := (.int .i64 4)) (v := (.int .i64 7)) h11_4 rfl (by kernel_rfl)) F4.l fun a5 u5 h12_5 => ?_
  have F5 := F4.pt u5
  refine wl_p (ex_bi (w' := w0) (args := #[(.int .i64 7), (.int .i64 24)]) (v := (.int .i64 24)) (arg2 h12_5 rfl) (by kernel_rfl)) F5.l fun a6 u6 h13_6 => ?_
  have F6 := F5.pt u6
  obtain ⟨g14, hg14⟩ : ∃ g, w0.heap.size = g := ⟨_, rfl⟩
  have ge_14 : w0.heap.size ≤ g14 := by have := Kp0.size; omega
  obtain ⟨w1, hr1, B14_1, G1, hs1⟩ := mk8_run hg14 (w := w0)
  have R_1 := BRow.start B14_1 ge_14
  have TP_1 := ht.gn G1 hgt
  have Kp1 := Kp0.new G1
  refine wl_p (ex_ms rfl h13_6 hr1) F6.l fun a7 u7 (h14_7 : a7.tmps.getD 14 undef = (.slice (some ⟨g14, 0, none⟩) 0 24)) => ?_
  have F7 := F6.pt u7
  have h0_7 := u7.w (u6.w (u5.w (u4.w (u3.w (u2.w (u1.w h0_0))))))
  refine wl_p (ex_mv h0_7) F7.l fun a8 u8 h15_8 => ?_
  have F8 := F7.pt u8
  refine wl_p (ex_conv (vx := (.float .f64 x)) (v := (.float .f32 x2)) h15_8 (cv_f32 x x2 hcf _)) F8.l fun a9 u9 h16_9 => ?_
  have F9 := F8.pt u9
  have h1_9 := u9.w (u8.w (u7.w (u6.w (u5.w (u4.w (u3.w (u2.w (u1.w h1_0))))))))
  refine wl_p (ex_mv h1_9) F9.l fun a10 u10 h17_10 => ?_
  have F10 := F9.pt u10
  have h2_10 := u10.w (u9.w (u8.w (u7.w (u6.w (u5.w (u4.w h2_3))))))
  refine wl_p (ex_mv h2_10) F10.l fun a11 u11 h18_11 => ?_
  have F11 := F10.pt u11
  have h14_11 := u11.w (u10.w (u9.w (u8.w h14_7)))
  refine wl_cl (args := #[(.slice (some ⟨g14, 0, none⟩) 0 24), (.float .f32 x2), (.int .u8 102), (.int .i64 3)]) (R := fun v w' => BRow w' w0.heap.size v T ∧ Below w0.heap.size w1 w') (ex_cl (fun _ _ => by kernel_rfl) (arg4 h14_11 (u11.w (u10.w h16_9)) (u11.w h17_10) h18_11)) ((hcall _ _ R_1 Kp1.size TP_1).mono fun _ _ ⟨v, h1, h2, h3⟩ => ⟨v, h1, h2, h3⟩) F11.l ?_
  rintro vf w2 ⟨Rf, Blf⟩
  have hstr := Rf.str
  intro a12 u12 h19_12
  have F12 := F11.pt u12
  refine wl_p (ex_conv (vx := vf) (v := (.string (bs T))) h19_12 (hstr)) F12.l fun a13 u13 h20_13 => ?_
  have F13 := F12.pt u13
  refine wl_p (ex_as h20_13) F13.l fun a14 u14 h8_14 => ?_
  have F14 := F13.pt u14
  change Code.wp _ _ _ _ _
  refine wp_ret ?_
  try simp only [Exit.then, Exit.inBlock]
  exact bodyPost_ret (v := .string (bs T)) ((results_tmp rfl _ _ _).trans (by rw [h8_14])) F14.defers ⟨rfl, below_grown (Kp1.below.trans Blf)⟩
theorem ff_pub {x prec T : Value} {w0 : World} {R : Value → World → Prop} (h : Calls Tryz.prog 59 #[x, .int .u8 102, prec, T] w0 fun e w' => ∃ v, e = .returned v ∧ R v w') :
    Calls Tryz.prog 51 #[x, .int .u8 102, prec, T] w0 fun e w' => ∃ v, e = .returned v ∧ R v w' := by
  refine calls_of_wp Tryz.func51 rfl ?_
  generalize hA : Act.mk _ _ = a0
  have F0 : Fz 14 a0 := by subst hA; exact ⟨by simp [Tryz.ntmps51], rfl⟩
  have h0_0 : a0.tmps.getD 0 undef = x := by subst hA; exact fr_arg rfl
  have h1_0 : a0.tmps.getD 1 undef = (.int .u8 102) := by subst hA; exact fr_arg rfl
  have h2_0 : a0.tmps.getD 2 undef = prec := by subst hA; exact fr_arg rfl
  have h3_0 : a0.tmps.getD 3 undef = T := by subst hA; exact fr_arg rfl
  clear hA
  refine wp_seq ?_
  refine rg_list ?_
  refine wl_p (ex_as (v := (.string { data := #[] })) rfl) F0.l fun a1 u1 h8_1 => ?_
  have F1 := F0.pt u1
  change Code.wp _ _ _ _ _
  refine wp_seq ?_
  refine rg_list ?_
  refine wl_p (ex_mv (u1.w h0_0)) F1.l fun a2 u2 h9_2 => ?_
  have F2 := F1.pt u2
  refine wl_p (ex_mv (u2.w (u1.w h1_0))) F2.l fun a3 u3 h10_3 => ?_
  have F3 := F2.pt u3
  have h2_3 := u3.w (u2.w (u1.w h2_0))
  refine wl_p (ex_mv h2_3) F3.l fun a4 u4 h11_4 => ?_
  have F4 := F3.pt u4
  have h3_4 := u4.w (u3.w (u2.w (u1.w h3_0)))
  refine wl_p (ex_mv h3_4) F4.l fun a5 u5 h12_5 => ?_
  have F5 := F4.pt u5
  have h9_5 := u5.w (u4.w (u3.w h9_2))
  refine wl_cl (args := #[x, (.int .u8 102), prec, T]) (R := fun v w' => R v w') (ex_cl (fun _ _ => by kernel_rfl) (arg4 h9_5 (u5.w (u4.w h10_3)) (u5.w h11_4) h12_5)) ((h).mono fun _ _ h => h) F5.l ?_
  rintro vf w1 hRv
  intro a6 u6 h13_6
  have F6 := F5.pt u6
  refine wl_p (ex_as h13_6) F6.l fun a7 u7 h8_7 => ?_
  have F7 := F6.pt u7
  change Code.wp _ _ _ _ _
  refine wp_ret ?_
  try simp only [Exit.then, Exit.inBlock]
  exact bodyPost_ret (v := vf) ((results_tmp rfl _ _ _).trans (by rw [h8_7])) F7.defers ⟨_, rfl, hRv⟩
theorem Enc.grown {B b : Nat} {R : Nat → Option Value} {w0 w w' : World} {l : List UInt8} (h : Enc B b R w0 l w) (G : w.grownBy w' none) : Enc B b R w0 l w' := by
  have hk : ∀ k, k < w.heap.size → w'.heap[k]? = w.heap[k]? := fun k hk => G.block k hk (fun e => by cases e)
  refine ⟨h.buf.carry hk, h.bel.trans ⟨G.os, G.tape, G.output, G.size, fun k hkB => hk k (Nat.lt_of_lt_of_le hkB h.low)⟩, ?_, Nat.le_trans h.low G.size⟩
  intro k o ho hb hT
  have h1 := h.oth k o ho hb hT
  rw [hk k (Array.getElem?_eq_some_iff.1 h1).1]; exact h1
end Go.Proofs.YtlphcidpaidclaaGreatDoor
namespace Go.Proofs.YtlphcidpaidclaaGreatDoor
open Go.RowKit
set_option maxRecDepth 100000

/-- digits without noughts at the end -/
def trimD (l : List UInt8) : List UInt8 := (l.reverse.dropWhile (· == 48)).reverse
def nz (l : List UInt8) : Nat := l.length - (trimD l).length
-- the numbers of n eighths, as short as can be
def a_x (n : Nat) : Nat := fb n
def a_e (n : Nat) : Int := (a_x n : Int) / 2 ^ 52
def a_t (n : Nat) : Int := bits .and .u64 (a_x n) 4503599627370495
def a_m (n : Nat) : Int := bits .or .u64 (a_t n) 4503599627370496
def a_M (n : Nat) : Int := wr (a_m n * 2 ^ 11)
def a_E (n : Nat) : Int := a_e n - 1023 - 11 - 52
def a_p (n : Nat) : Int := if a_M n = 9223372036854775808 then -(((a_E n + 11) * 631305 - 261663) / 2097152) else -((a_E n + 11) * 78913 / 262144)
def a_mn (n : Nat) : Int := if a_M n = 9223372036854775808 then a_M n - 512 else a_M n - 1024
def a_mx (n : Nat) : Int := a_M n + 1024
def a_o (n : Nat) : Int := bits .and .i64 (a_M n / 2048) 1
def a_s (n : Nat) : Int := -(a_E n + a_p n * 108853 / 32768 + 3)
def a_i (n : Nat) : Nat := (a_p n + 348).toNat
def a_row (n : Nat) : Nat × Nat × Nat := (p10L.find? fun x => x.1 == a_i n).getD (0, 0, 0)
def a_u1 (n : Nat) : Int := bits .or .u64 (sh (mulHi (a_mn n) (a_row n).2.1) (a_s n)) 1
def a_u2 (n : Nat) : Int := bits .or .u64 (sh (mulHi (a_mx n) (a_row n).2.1) (a_s n)) 1
def a_dmin (n : Nat) : Int := (nudgeF (a_u1 n) (a_o n) + 3) / 4
def a_d (n : Nat) : Nat := (nudgeF (a_u2 n) (-a_o n) / 4 / 10).toNat
def a_tr (n : Nat) : List UInt8 := trimD (Lib.decDigits (a_d n))
def a_dp (n : Nat) : Nat := ((Lib.nDigits (a_d n) : Int) + -(a_p n - 1)).toNat
def chkA (n : Nat) : Prop :=
  (a_x n : Int) / 2 ^ 63 = 0 ∧ bits .and .i64 (a_e n) 2047 = a_e n ∧ (0 < a_e n ∧ a_e n < 2047) ∧ (0 < a_m n ∧ a_m n < 18446744073709551616) ∧ Lib.bitLen (a_m n).toNat = 53 ∧
  (9223372036854775808 ≤ a_M n ∧ a_M n < 18446744073709000000) ∧ (-200 ≤ a_E n ∧ a_E n ≤ 0) ∧ (0 < a_p n ∧ a_p n < 100) ∧ a_p n - -348 = (a_i n : Int) ∧ (a_i n, (a_row n).2.1, (a_row n).2.2) ∈ p10L ∧ a_i n < 696 ∧ (a_o n = 0 ∨ a_o n = 1) ∧ (0 ≤ a_s n ∧ a_s n < 64) ∧ (a_row n).2.1 < 18446744073709551616 ∧
  (¬ wr (sh (mulHi (a_mn n) (a_row n).2.1) (a_s n) * 2 ^ (a_s n).toNat) = mulHi (a_mn n) (a_row n).2.1) ∧ (¬ wr (sh (mulHi (a_mx n) (a_row n).2.1) (a_s n) * 2 ^ (a_s n).toNat) = mulHi (a_mx n) (a_row n).2.1) ∧
  (0 ≤ nudgeF (a_u1 n) (a_o n) ∧ nudgeF (a_u1 n) (a_o n) ≤ 4611686018427387905) ∧ (0 ≤ nudgeF (a_u2 n) (-a_o n) ∧ nudgeF (a_u2 n) (-a_o n) ≤ 4611686018427387905) ∧ nudgeF (a_u2 n) (-a_o n) / 4 / 10 = (a_d n : Int) ∧ (a_dmin n ≤ (a_d n : Int) * 10 ∧ 0 < (a_d n : Int) ∧ (a_d n : Int) < 1000000000000000000) ∧
  1 ≤ a_d n ∧ a_d n < 1000000000000000000 ∧ (-100 ≤ -(a_p n - 1) ∧ -(a_p n - 1) ≤ 100) ∧ Lib.decDigits (a_d n) = a_tr n ++ List.replicate (nz (Lib.decDigits (a_d n))) 48 ∧ 0 < (a_tr n).length ∧ (a_tr n).length ≤ 20 ∧ (a_tr n)[(a_tr n).length - 1]? ≠ some 48 ∧ (Lib.nDigits (a_d n) : Int) + -(a_p n - 1) = (a_dp n : Int) ∧ a_dp n ≤ 20 ∧
  efgT (a_tr n) (a_dp n) ((a_tr n).length - a_dp n) = shortT n
instance (n : Nat) : Decidable (chkA n) := by unfold chkA; exact inferInstance
theorem chkA_all : ∀ n : Fin 301, 0 < n.val → chkA n.val := by decide +kernel
-- with three digits
def b_x (n : Nat) : Nat := (floatToFloatBits .f64 (fb n) .f32).getD 0
def b_e (n : Nat) : Int := (b_x n : Int) / 2 ^ 23
def b_t (n : Nat) : Int := bits .and .u64 (b_x n) 8388607
def b_m (n : Nat) : Int := bits .or .u64 (b_t n) 8388608
def b_M (n : Nat) : Int := wr (b_m n * 2 ^ 40)
def b_E (n : Nat) : Int := b_e n - 127 - 40 - 23
def b_n (n : Nat) : Nat := (if 0 ≤ b_e n - 127 then 1 + (1 + (b_e n - 127)) * 78913 / 262144 + 3 else 4 - (-(b_e n - 127)) * 78913 / 262144).toNat
def b_p (n : Nat) : Int := (b_n n : Int) - 1 - (b_E n + 63) * 78913 / 262144
def b_i (n : Nat) : Nat := (b_p n + 348).toNat
def b_row (n : Nat) : Nat × Nat × Nat := (p10L.find? fun x => x.1 == b_i n).getD (0, 0, 0)
def b_s (n : Nat) : Int := -(b_E n + b_p n * 108853 / 32768 + 3)
def b_u (n : Nat) : Int := us2 (b_M n) (b_row n).2.1 (b_row n).2.2 (b_s n)
def b_tn (n : Nat) : Nat := (Lib.pow10Tab.getD (b_n n) 0).toNat
def b_big (n : Nat) : Bool := decide ((b_tn n : Int) * 4 - 2 ≤ b_u n)
def b_d (n : Nat) : Nat := (roundF (if b_p n = 3 then b_u n else divF (b_u n))).toNat
def b_tr (n : Nat) : List UInt8 := trimD (Lib.decDigits (b_d n))
def b_dp (n : Nat) : Nat := ((Lib.nDigits (b_d n) : Int) + -3).toNat
def chkB (n : Nat) : Prop :=
  floatToFloatBits .f64 (fb n) .f32 = some (b_x n) ∧ (b_x n : Int) / 2 ^ 31 = 0 ∧ bits .and .i64 (b_e n) 255 = b_e n ∧ b_x n < 4294967296 ∧ (0 < b_e n ∧ b_e n < 255) ∧ b_n n < 10 ∧ (0 < b_m n ∧ b_m n < 18446744073709551616) ∧ Lib.bitLen (b_m n).toNat = 24 ∧
  (if 0 ≤ b_e n - 127 then 1 + (1 + (b_e n - 127)) * 78913 / 262144 + 3 else 4 - (-(b_e n - 127)) * 78913 / 262144) = (b_n n : Int) ∧
  (0 ≤ b_M n ∧ b_M n < 18446744073709551616) ∧ (-200 ≤ b_E n ∧ b_E n ≤ 0) ∧ (b_n n = 4 ∨ b_n n = 5) ∧ (b_p n = 3 ∨ b_p n = 4) ∧ b_p n - -348 = (b_i n : Int) ∧ (b_i n, (b_row n).2.1, (b_row n).2.2) ∈ p10L ∧ b_i n < 696 ∧ (b_row n).2.1 < 18446744073709551616 ∧ (b_row n).2.2 < 18446744073709551616 ∧ (0 ≤ b_s n ∧ b_s n < 64) ∧
  wr (sh (mulHi (b_M n) (b_row n).2.1) (b_s n) * 2 ^ (b_s n).toNat) = mulHi (b_M n) (b_row n).2.1 ∧ (0 ≤ b_u n ∧ b_u n ≤ 4611686018427387905) ∧ (0 ≤ divF (b_u n) ∧ divF (b_u n) ≤ 4611686018427387905) ∧ Lib.pow10Tab.getD (b_n n) 0 = (b_tn n : Int) ∧ (1 ≤ b_tn n ∧ b_tn n ≤ 1000000000) ∧ (b_big n = true → b_p n = 4) ∧ roundF (if b_p n = 3 then b_u n else divF (b_u n)) = (b_d n : Int) ∧
  1 ≤ b_d n ∧ b_d n < 1000000000000000000 ∧ Lib.decDigits (b_d n) = b_tr n ++ List.replicate (nz (Lib.decDigits (b_d n))) 48 ∧ 0 < (b_tr n).length ∧ (b_tr n).length ≤ 20 ∧ (b_tr n)[(b_tr n).length - 1]? ≠ some 48 ∧ (Lib.nDigits (b_d n) : Int) + -3 = (b_dp n : Int) ∧ b_dp n ≤ 20 ∧ 0 < b_n n ∧
  efgT (b_tr n) (b_dp n) 3 = sec3 n
instance (n : Nat) : Decidable (chkB n) := by unfold chkB; exact inferInstance
theorem chkB_all : ∀ n : Fin 160, 0 < n.val → chkB n.val := by decide +kernel
theorem last_of {l : List UInt8} (h : l[l.length - 1]? ≠ some 48) : ∀ hh, l[l.length - 1]'hh ≠ 48 := fun hh e => h (by rw [List.getElem?_eq_getElem hh, e])
theorem ff64 : FF64 := by
  intro B b R w0 l n h1 hn ht hgt w hE
  obtain ⟨c1, c2, c3, c4, c5, c6, c7, c8, c9, c10, c11, c12, c13, c14, c15, c16, c17, c18, c19, c20, c21, c22, c23, c24, c25, c26, c27, c28, c29, c30⟩ := chkA_all ⟨n, hn⟩ h1
  have htw : TabP w := ht.keep fun k hk => hE.bel.block k (Nat.lt_of_le_of_lt hk hgt)
  have hgw : 7 < w.heap.size := Nat.lt_of_lt_of_le hgt hE.low
  have hS : ShF (a_M n) (a_E n) (a_p n) (a_mn n) (a_mx n) (a_o n) (a_s n) (a_d n) (a_dmin n) (a_u1 n) (a_u2 n) (a_i n) (a_row n).2.1 (a_row n).2.2 :=
    ⟨c6, c7, c8, rfl, c9, c10, c11, rfl, rfl, rfl, c12, rfl, c13, c14, c15, c16, rfl, rfl, c17, c18, rfl, c19, c20⟩
  have h := ff_any64 (x := fb n) (T := shortT n) htw hgw fun v0 w1 hR hB ht1 => by
    have h := ftoa64_any (x := fb n) (l := []) (v0 := v0) (w0 := w1) c1 rfl c2 c3 rfl rfl c4 c5 rfl rfl hS c21 c22 c23 c24 c25 c26 (last_of c27) c28 c29 hR hB (by simp) ht1 hgw
    rw [List.nil_append] at h
    rw [c30] at h
    exact h
  refine (ff_pub (R := fun v w' => v = .string (bs (shortT n)) ∧ w.grownBy w' none) (h.mono fun _ _ h => ⟨_, h.1, rfl, h.2⟩)).mono ?_
  rintro e w' ⟨v, rfl, rfl, G⟩
  exact ⟨rfl, hE.grown G⟩
theorem ff32 : FF32 := by
  intro B b R w0 l n hn ht hgt w hE
  have htw : TabP w := ht.keep fun k hk => hE.bel.block k (Nat.lt_of_le_of_lt hk hgt)
  have hgw : 7 < w.heap.size := Nat.lt_of_lt_of_le hgt hE.low
  have hfin : ∀ {x2 : Nat}, floatToFloatBits .f64 (fb n) .f32 = some x2 → (∀ (v0 : Value) (w1 : World), BRow w1 w.heap.size v0 [] → w.heap.size ≤ w1.heap.size → TabP w1 → Calls Tryz.prog 68 #[v0, .float .f32 x2, .int .u8 102, .int .i64 3] w1 fun e w' => ∃ v, e = .returned v ∧ BRow w' w.heap.size v (sec3 n) ∧ Below w.heap.size w1 w') →
      Calls Tryz.prog 51 #[.float .f64 (fb n), .int .u8 102, .int .i64 3, .int .i64 32] w fun e w' => e = .returned (.string (bs (sec3 n))) ∧ Enc B b R w0 l w' := by
    intro x2 hcf hc
    have h := ff_any32 (x := fb n) (T := sec3 n) hcf htw hgw hc
    refine (ff_pub (R := fun v w' => v = .string (bs (sec3 n)) ∧ w.grownBy w' none) (h.mono fun _ _ h => ⟨_, h.1, rfl, h.2⟩)).mono ?_
    rintro e w' ⟨v, rfl, rfl, G⟩
    exact ⟨rfl, hE.grown G⟩
  by_cases h0 : n = 0
  · subst h0
    refine hfin (x2 := 0) (by decide +kernel) fun v0 w1 hR hB ht1 => ?_
    have h := ftoa32_zero (x := 0) (l := []) (v0 := v0) (w0 := w1) (by decide) (by decide) (by decide +kernel) (by decide) hR hB (by simp) ht1 hgw
    rw [List.nil_append, show efgT [] 0 3 = sec3 0 from by decide +kernel] at h
    exact h
  · obtain ⟨c0, c1, c2, c3, c4, c5, c6, c7, c8, c9, c10, c11, c12, c13, c14, c15, c16, c17, c18, c19, c20, c21, c22, c23, c24, c25, c26, c27, c28, c29, c30, c31, c32, c33, c34, c35⟩ := chkB_all ⟨n, hn⟩ (by show 0 < n; omega)
    have hS : FxF (b_M n) (b_E n) (b_p n) (b_s n) (b_u n) (b_d n) (b_n n) (b_i n) (b_row n).2.1 (b_row n).2.2 (b_tn n) (b_big n) :=
      ⟨c9, c10, c11, rfl, c12, c13, c14, c15, c16, c17, rfl, c18, c19, rfl, c20, c21, c22, c23, rfl, c24, c25⟩
    refine hfin c0 fun v0 w1 hR hB ht1 => ?_
    by_cases hp : 0 ≤ b_e n - 127
    · rw [if_pos hp] at c8
      have h := ftoa32_pos (x := b_x n) (l := []) (v0 := v0) (w0 := w1) c1 rfl c2 rfl c3 c4 hp c8 c5 rfl c6 c7 rfl rfl hS c26 c27 (by decide) c28 c29 c30 (last_of c31) c32 c33 c34 hR hB (by simp) ht1 hgw
      rw [List.nil_append] at h
      rw [c35] at h
      exact h
    · rw [if_neg hp] at c8
      have h := ftoa32_neg (x := b_x n) (l := []) (v0 := v0) (w0 := w1) c1 rfl c2 rfl c3 c4 (by show b_e n - 127 < 0; omega) c8 c5 rfl c6 c7 rfl rfl hS c26 c27 (by decide) c28 c29 c30 (last_of c31) c32 c33 c34 hR hB (by simp) ht1 hgw
      rw [List.nil_append] at h
      rw [c35] at h
      exact h
end Go.Proofs.YtlphcidpaidclaaGreatDoor
