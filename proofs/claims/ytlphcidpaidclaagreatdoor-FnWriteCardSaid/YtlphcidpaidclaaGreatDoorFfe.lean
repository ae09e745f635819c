/-
  internal/strconv: the small functions that the printing of floats rests on.
-/
import Derived.Test.YtlphcidpaidclaaGreatDoorFmu
import Derived.Test.YtlphcidpaidclaaGreatDoorOps
import Derived.WalkKit
import Derived.Deep.QuietTactic
import Derived.BigQuiet
import Derived.Test.YtlphcidpaidclaaGreatDoorSpm
namespace Go.Proofs.YtlphcidpaidclaaGreatDoor
open Go.RowKit
set_option maxRecDepth 100000

/-- the plain forms -/
def wr (x : Int) : Int := IntKind.u64.wrap x
def lo32 (x : Int) : Int := bits .and .u64 x 4294967295
def mulT (x y : Int) : Int := wr (wr (x / 4294967296 * lo32 y) + wr (lo32 x * lo32 y) / 4294967296)
def mulHi (x y : Int) : Int := wr (wr (wr (x / 4294967296 * (y / 4294967296)) + mulT x y / 4294967296) + wr (lo32 (mulT x y) + wr (lo32 x * (y / 4294967296))) / 4294967296)
def mulLo (x y : Int) : Int := wr (x * y)
def nudgeF (u d : Int) : Int := wr (u + wr d)
def roundF (u : Int) : Int := wr (u + 1 + bits .and .u64 (u / 4) 1) / 4
theorem l10_any (x : Int) (h0 : -2000 ≤ x) (h1 : x ≤ 2000) (w : World) : Calls Tryz.prog 74 #[.int .i64 x] w fun e w' => e = .returned (.int .i64 (x * 78913 / 262144)) ∧ w = w' := by
  go_enter Tryz.func74, Tryz.ntmps74
  go_wp2
  go_ret
  exact ⟨rfl, rfl⟩
theorem l2_any (x : Int) (h0 : -2000 ≤ x) (h1 : x ≤ 2000) (w : World) : Calls Tryz.prog 101 #[.int .i64 x] w fun e w' => e = .returned (.int .i64 (x * 108853 / 32768)) ∧ w = w' := by
  go_enter Tryz.func101, Tryz.ntmps101
  go_wp2
  go_ret
  exact ⟨rfl, rfl⟩
theorem skewed_any (x : Int) (h0 : -2000 ≤ x) (h1 : x ≤ 2000) (w : World) : Calls Tryz.prog 99 #[.int .i64 x] w fun e w' => e = .returned (.int .i64 ((x * 631305 - 261663) / 2097152)) ∧ w = w' := by
  go_enter Tryz.func99, Tryz.ntmps99
  go_wp2
  go_ret
  exact ⟨rfl, rfl⟩
theorem b2u_any (q : Bool) (w : World) : Calls Tryz.prog 120 #[.bool q] w fun e w' => e = .returned (.int .u64 (if q then 1 else 0)) ∧ w = w' := by
  cases q
  all_goals
    go_enter Tryz.func120, Tryz.ntmps120
    go_wp2
    go_ret
    exact ⟨rfl, rfl⟩
theorem b2r_any (q : Bool) (w : World) : Calls Tryz.prog 121 #[.bool q] w fun e w' => e = .returned (.int .u64 (if q then 1 else 0)) ∧ w = w' := by
  cases q
  all_goals
    go_enter Tryz.func121, Tryz.ntmps121
    go_wp2
    go_ret
    exact ⟨rfl, rfl⟩
theorem b2i_any (q : Bool) (w : World) : Calls Tryz.prog 76 #[.bool q] w fun e w' => e = .returned (.int .i64 (if q then 1 else 0)) ∧ w = w' := by
  cases q
  all_goals
    go_enter Tryz.func76, Tryz.ntmps76
    go_wp2
    go_ret
    exact ⟨rfl, rfl⟩
theorem nudge_any (u d : Int) (w : World) : Calls Tryz.prog 103 #[.int .u64 u, .int .i64 d] w fun e w' => e = .returned (.int .u64 (nudgeF u d)) ∧ w = w' := by
  go_enter Tryz.func103, Tryz.ntmps103
  go_wp2
  go_ret
  exact ⟨rfl, rfl⟩
theorem uceil_any (u : Int) (w : World) (h0 : 0 ≤ u) (h1 : u ≤ 4611686018427387905) : Calls Tryz.prog 104 #[.int .u64 u] w fun e w' => e = .returned (.int .u64 ((u + 3) / 4)) ∧ w = w' := by
  go_enter Tryz.func104, Tryz.ntmps104
  go_wp2
  go_ret
  exact ⟨rfl, rfl⟩
theorem ufloor_any (u : Int) (w : World) (h0 : 0 ≤ u) (h1 : u ≤ 4611686018427387905) : Calls Tryz.prog 105 #[.int .u64 u] w fun e w' => e = .returned (.int .u64 (u / 4)) ∧ w = w' := by
  go_enter Tryz.func105, Tryz.ntmps105
  go_wp2
  go_ret
  exact ⟨rfl, rfl⟩
theorem uround_any (u : Int) (w : World) (h0 : 0 ≤ u) (h1 : u ≤ 4611686018427387905) : Calls Tryz.prog 106 #[.int .u64 u] w fun e w' => e = .returned (.int .u64 (roundF u)) ∧ w = w' := by
  go_enter Tryz.func106, Tryz.ntmps106
  go_wp2
  go_ret
  exact ⟨rfl, rfl⟩
theorem unmin_any (x : Int) (w : World) (h0 : 1 ≤ x) (h1 : x ≤ 1000000000000000000) : Calls Tryz.prog 107 #[.int .u64 x] w fun e w' => e = .returned (.int .u64 (x * 4 - 2)) ∧ w = w' := by
  go_enter Tryz.func107, Tryz.ntmps107
  go_wp2
  go_ret
  exact ⟨rfl, rfl⟩
theorem mul64_any (x y : Int) (w : World) (hx : 0 ≤ x ∧ x < 18446744073709551616) (hy : 0 ≤ y ∧ y < 18446744073709551616) : Calls Tryz.prog 119 #[.int .u64 x, .int .u64 y] w fun e w' => e = .returned (.tuple #[.int .u64 (mulHi x y), .int .u64 (mulLo x y)]) ∧ w = w' := by
  go_enter Tryz.func119, Tryz.ntmps119
  go_wp2
  exact bodyPost_ret (v := .tuple #[.int .u64 (mulHi x y), .int .u64 (mulLo x y)]) ((results_tmp2 rfl _ _ _).trans rfl) rfl ⟨rfl, rfl⟩
def sh (u s : Int) : Int := u / 2 ^ s.toNat
/-- x times 2^e times 10^p, unrounded -/
def uscF (x hi lo s : Int) : Int :=
  let h := mulHi x hi
  if wr (sh h s * 2 ^ s.toNat) = h then
    let mid := mulLo x hi
    let mid2 := mulHi x lo
    let h2 := wr (h - if mid < mid2 then 1 else 0)
    bits .or .u64 (sh h2 s) (if 1 < wr (mid - mid2) then 1 else 0)
  else bits .or .u64 (sh h s) 1
end Go.Proofs.YtlphcidpaidclaaGreatDoor
namespace Go.Proofs.YtlphcidpaidclaaGreatDoor
open Go.RowKit
set_option maxRecDepth 100000

/-- the table's row of 10^p -/
def rowP (p : Int) : Nat × Nat × Nat := ((p10L.find? fun x => x.1 == (p + 348).toNat).getD (0, 0, 0))
def hiP (p : Int) : Int := (rowP p).2.1
def loP (p : Int) : Int := (rowP p).2.2
theorem and63 (s : Int) (h : 0 ≤ s ∧ s < 64) : bits .and .i64 s 63 = s := by
  have h2 : ∀ n : Fin 64, bits .and .i64 (n.val : Int) 63 = n.val := by decide +kernel
  have := h2 ⟨s.toNat, by omega⟩
  rwa [show ((s.toNat : Nat) : Int) = s by omega] at this
theorem usc1_any (x hi lo s : Int) (c : Nat) (w : World) (hx : 0 ≤ x ∧ x < 18446744073709551616) (hh : 0 ≤ hi ∧ hi < 18446744073709551616) (hs : 0 ≤ s ∧ s < 64) (hb : Blk w c 172 #[.int .u64 hi, .int .u64 lo, .int .i64 s])
    (hq : ¬ wr (sh (mulHi x hi) s * 2 ^ s.toNat) = mulHi x hi) :
    Calls Tryz.prog 102 #[.int .u64 x, .pointer (some ⟨c, 0, none⟩)] w fun e w' => e = .returned (.int .u64 (bits .or .u64 (sh (mulHi x hi) s) 1)) ∧ w = w' := by
  have h0 : w.cell? ⟨c, 0, none⟩ = some (.int .u64 hi) := hb.cell 0
  have h1 : w.cell? ⟨c, 1, none⟩ = some (.int .u64 lo) := hb.cell 1
  have h2 : w.cell? ⟨c, 2, none⟩ = some (.int .i64 s) := hb.cell 2
  have h63 := and63 s hs
  obtain ⟨hs0, hs1⟩ := hs
  have HM := Lib.hid (mul64_any x hi w hx hh)
  have HQ := Lib.hid hq
  have hq' : (IntKind.u64.wrap (mulHi x hi / 2 ^ s.toNat * 2 ^ s.toNat) != mulHi x hi) = true := by
    simpa [bne, wr, sh] using hq
  clear hb hq
  generalize mulHi x hi = H at *
  generalize mulLo x hi = L at *
  go_enter Tryz.func102, Tryz.ntmps102
  go_wp2_with fail
  refine HM.out.mono ?_
  rintro e w' ⟨rfl, rfl⟩
  go_wp2_with fail
  go_ret
  exact ⟨rfl, rfl⟩
/-- the unrounded value where all bits behind are nought -/
def us2 (x hi lo s : Int) : Int := bits .or .u64 (sh (wr (mulHi x hi - if mulLo x hi < mulHi x lo then 1 else 0)) s) (if 1 < wr (mulLo x hi - mulHi x lo) then 1 else 0)
theorem b2u_s (q : Bool) (w : World) : Calls Tryz.prog 120 #[.bool q] w fun e w' => e = .returned (.int .u64 (if q then 1 else 0)) ∧ w' = w := (b2u_any q w).mono fun _ _ h => ⟨h.1, h.2.symm⟩
theorem grown_drewN' (w : World) (k : Nat) : w.grownBy (w.drewN k) none := ⟨rfl, rfl, rfl, Nat.le_refl _, fun _ _ _ => rfl⟩
theorem usc2_any (x hi lo s : Int) (c : Nat) (w : World) (hx : 0 ≤ x ∧ x < 18446744073709551616) (hh : 0 ≤ hi ∧ hi < 18446744073709551616) (hll : 0 ≤ lo ∧ lo < 18446744073709551616) (hs : 0 ≤ s ∧ s < 64) (hb : Blk w c 172 #[.int .u64 hi, .int .u64 lo, .int .i64 s])
    (hq : wr (sh (mulHi x hi) s * 2 ^ s.toNat) = mulHi x hi) :
    Calls Tryz.prog 102 #[.int .u64 x, .pointer (some ⟨c, 0, none⟩)] w fun e w' => e = .returned (.int .u64 (us2 x hi lo s)) ∧ w.grownBy w' none := by
  have h0 : w.cell? ⟨c, 0, none⟩ = some (.int .u64 hi) := hb.cell 0
  have h1 : w.cell? ⟨c, 1, none⟩ = some (.int .u64 lo) := hb.cell 1
  have h2 : w.cell? ⟨c, 2, none⟩ = some (.int .i64 s) := hb.cell 2
  have h63 := and63 s hs
  obtain ⟨hs0, hs1⟩ := hs
  have HM := Lib.hid (mul64_any x hi w hx hh)
  have HM2 := Lib.hid (mul64_any x lo w hx hll)
  have HB := Lib.hid b2u_any
  have hq' : (IntKind.u64.wrap (mulHi x hi / 2 ^ s.toNat * 2 ^ s.toNat) != mulHi x hi) = false := by
    simpa [bne, wr, sh] using hq
  clear hb hq
  obtain ⟨R, hR⟩ : ∃ R, R = us2 x hi lo s := ⟨_, rfl⟩
  have HR := Lib.hid hR
  rw [← hR]
  clear hR
  unfold us2 at HR
  generalize mulHi x hi = H at *
  generalize mulLo x hi = L at *
  generalize mulHi x lo = H2 at *
  generalize mulLo x lo = L2 at *
  go_enter Tryz.func102, Tryz.ntmps102
  go_wp2_with fail
  refine HM.out.mono ?_
  rintro e w' ⟨rfl, rfl⟩
  go_wp2_with fail
  refine HM2.out.mono ?_
  rintro e w' ⟨rfl, rfl⟩
  go_wp2_with fail
  refine (HB.out _ _).mono ?_
  rintro e w' ⟨rfl, rfl⟩
  go_wp2_with fail
  all_goals
    go_quiet ((go_at_call 120; exact Calls.quiet_of_same (b2u_s _ _)))
    go_wp2
    all_goals
      go_ret
      refine ⟨ret_int ?_, grown_drewN' _ _⟩
      have hr := HR.out
      unfold sh wr at hr
      rw [hr]
      repeat' split
      all_goals first | rfl | (exfalso; omega) | (simp; done)
end Go.Proofs.YtlphcidpaidclaaGreatDoor
namespace Go.Proofs.YtlphcidpaidclaaGreatDoor
open Go.RowKit
set_option maxRecDepth 100000
theorem TabP.gk {w w' : World} {c : Nat} (h : TabP w) (G : w.grownBy w' (some c)) (hc : 7 < c) (hs : 7 < w.heap.size) : TabP w' := h.keep fun k hk => G.block k (by omega) (fun e => by have := Option.some.inj e; omega)
theorem TabP.gn {w w' : World} (h : TabP w) (G : w.grownBy w' none) (hs : 7 < w.heap.size) : TabP w' := h.keep fun k hk => G.block k (by omega) (fun e => by cases e)
theorem ixp_run (i : Nat) (hi : i < 696) (w : World) : (Instr.indexAt 187 (.pointer (some ⟨7, 0, none⟩)) (.int .i64 i)).run Tryz.prog w = .ok (.pointer (some ⟨7, 2 * i, none⟩)) w := by
  have h1 : (i : Int) < 696 := by omega
  have h2 : (0 : Int) ≤ (i : Int) := by omega
  simp [go_sem, h1, h2]
section
variable {x y : Operand}
theorem bo_addz (m n : Int) (w : World) (h0 : -9223372036854775808 ≤ m + n) (h1 : m + n < 9223372036854775808) : (do eqGuard .add 3 x y (.int .i64 m) (.int .i64 n); binOp .add 3 (.int .i64 m) (.int .i64 n) : Sem Value).run Tryz.prog w = .ok (.int .i64 (m + n)) w := by
  simp [go_sem]
  rw [IntKind.wrap_i64]; omega
theorem bo_subz (m n : Int) (w : World) (h0 : -9223372036854775808 ≤ m - n) (h1 : m - n < 9223372036854775808) : (do eqGuard .sub 3 x y (.int .i64 m) (.int .i64 n); binOp .sub 3 (.int .i64 m) (.int .i64 n) : Sem Value).run Tryz.prog w = .ok (.int .i64 (m - n)) w := by
  simp [go_sem]
  rw [IntKind.wrap_i64]; omega
theorem uo_neg (m : Int) (w : World) (h0 : -9223372036854775807 ≤ m) (h1 : m < 9223372036854775808) : (Op.unary .neg (.int .i64 m) : Sem Value).run Tryz.prog w = .ok (.int .i64 (-m)) w := by
  simp [go_sem]
  rw [IntKind.wrap_i64]; omega
end
theorem pre_any (c i hi_ lo_ : Nat) (e p lp : Int) (w0 : World) (hi : p - -348 = (i : Int)) (hmem : (i, hi_, lo_) ∈ p10L) (hi2 : i < 696) (he : -500 ≤ e ∧ e ≤ 500) (hl : -500 ≤ lp ∧ lp ≤ 500) (hb : Blk w0 c 172 #[.int .u64 0, .int .u64 0, .int .i64 0]) (hc : 7 < c) (ht : TabP w0) :
    Calls Tryz.prog 100 #[.pointer (some ⟨c, 0, none⟩), .int .i64 e, .int .i64 p, .int .i64 lp] w0 fun r w' => r = .returned (.tuple #[]) ∧ Blk w' c 172 #[.int .u64 hi_, .int .u64 lo_, .int .i64 (-(e + lp + 3))] ∧ w0.grownBy w' (some c) := by
  refine calls_of_wp Tryz.func100 rfl ?_
  generalize hA : Act.mk _ _ = a0
  have F0 : Fz 32 a0 := by subst hA; exact ⟨by simp [Tryz.ntmps100], rfl⟩
  have h0_0 : a0.tmps.getD 0 undef = (.pointer (some ⟨c, 0, none⟩)) := by subst hA; exact fr_arg rfl
  have h1_0 : a0.tmps.getD 1 undef = (.int .i64 e) := by subst hA; exact fr_arg rfl
  have h2_0 : a0.tmps.getD 2 undef = (.int .i64 p) := by subst hA; exact fr_arg rfl
  have h3_0 : a0.tmps.getD 3 undef = (.int .i64 lp) := by subst hA; exact fr_arg rfl
  clear hA
  have Q0 := grown_refl w0 (some c)
  have TP_0 := ht
  refine wp_seq ?_
  refine rg_list ?_
  refine wl_p (ex_mv h0_0) F0.l fun a1 u1 h8_1 => ?_
  have F1 := F0.pt u1
  refine wl_p (ex_mv (u1.w h2_0)) F1.l fun a2 u2 h9_2 => ?_
  have F2 := F1.pt u2
  refine wl_p (ex_bin (vy := (.int .i64 (-348))) (v := (.int .i64 (p - (-348)))) h9_2 rfl (bo_subz p (-348) _ (by omega) (by omega))) F2.l fun a3 u3 h10_3 => ?_
  have F3 := F2.pt u3
  refine wl_p (ex_ixg (vx := .pointer (some ⟨7, 0, none⟩)) (v := .pointer (some ⟨7, 2 * i, none⟩)) rfl (h10_3.trans (congrArg (Value.int .i64) hi)) (ixp_run i (by omega) _)) F3.l fun a4 u4 h11_4 => ?_
  have F4 := F3.pt u4
  refine wl_p (ex_fag (v := .pointer (some ⟨7, 2 * i, none⟩)) h11_4 (by kernel_rfl)) F4.l fun a5 u5 h12_5 => ?_
  have F5 := F4.pt u5
  refine wl_p (ex_le (v := .int .u64 hi_) h12_5 (TP_0.p _ hmem).1) F5.l fun a6 u6 h13_6 => ?_
  have F6 := F5.pt u6
  have h8_6 := u6.w (u5.w (u4.w (u3.w (u2.w h8_1))))
  refine wl_p (ex_nil h8_6) F6.l fun a7 u7 h14_7 => ?_
  have F7 := F6.pt u7
  refine wl_p (ex_fb 0 h14_7) F7.l fun a8 u8 h15_8 => ?_
  have F8 := F7.pt u8
  obtain ⟨w1, hr1, Bc_1, G1⟩ := st_run (T := 25) (o := 0) (v := (.int .u64 hi_)) (cs' := #[(.int .u64 hi_), (.int .u64 0), (.int .i64 0)]) (fun _ => by kernel_rfl) hb rfl (Nat.le_of_ble_eq_true rfl) rfl
  have TP_1 := TP_0.gk G1 hc (by have := hb.lt; omega)
  have Q1 : w0.grownBy w1 (some c) := grown_trans Q0 G1
  refine wl_n (ex_st h15_8 (u8.w (u7.w h13_6)) hr1) ?_
  clear hb
  change Code.wp _ _ _ _ _
  refine wp_seq ?_
  refine rg_list ?_
  have h0_8 := u8.w (u7.w (u6.w (u5.w (u4.w (u3.w (u2.w (u1.w h0_0)))))))
  refine wl_p (ex_mv h0_8) F8.l fun a9 u9 h16_9 => ?_
  have F9 := F8.pt u9
  have h2_9 := u9.w (u8.w (u7.w (u6.w (u5.w (u4.w (u3.w (u2.w (u1.w h2_0))))))))
  refine wl_p (ex_mv h2_9) F9.l fun a10 u10 h17_10 => ?_
  have F10 := F9.pt u10
  refine wl_p (ex_bin (vy := (.int .i64 (-348))) (v := (.int .i64 (p - (-348)))) h17_10 rfl (bo_subz p (-348) _ (by omega) (by omega))) F10.l fun a11 u11 h18_11 => ?_
  have F11 := F10.pt u11
  refine wl_p (ex_ixg (vx := .pointer (some ⟨7, 0, none⟩)) (v := .pointer (some ⟨7, 2 * i, none⟩)) rfl (h18_11.trans (congrArg (Value.int .i64) hi)) (ixp_run i (by omega) _)) F11.l fun a12 u12 h19_12 => ?_
  have F12 := F11.pt u12
  refine wl_p (ex_fag (v := .pointer (some ⟨7, 2 * i + 1, none⟩)) h19_12 (by kernel_rfl)) F12.l fun a13 u13 h20_13 => ?_
  have F13 := F12.pt u13
  refine wl_p (ex_le (v := .int .u64 lo_) h20_13 (TP_1.p _ hmem).2) F13.l fun a14 u14 h21_14 => ?_
  have F14 := F13.pt u14
  have h16_14 := u14.w (u13.w (u12.w (u11.w (u10.w h16_9))))
  refine wl_p (ex_nil h16_14) F14.l fun a15 u15 h22_15 => ?_
  have F15 := F14.pt u15
  refine wl_p (ex_fb 1 h22_15) F15.l fun a16 u16 h23_16 => ?_
  have F16 := F15.pt u16
  obtain ⟨w2, hr2, Bc_2, G2⟩ := st_run (T := 25) (o := 1) (v := (.int .u64 lo_)) (cs' := #[(.int .u64 hi_), (.int .u64 lo_), (.int .i64 0)]) (fun _ => by kernel_rfl) Bc_1 rfl (Nat.le_of_ble_eq_true rfl) rfl
  have TP_2 := TP_1.gk G2 hc (by have := Bc_1.lt; omega)
  have Q2 : w0.grownBy w2 (some c) := grown_trans Q1 G2
  refine wl_n (ex_st h23_16 (u16.w (u15.w h21_14)) hr2) ?_
  change Code.wp _ _ _ _ _
  refine rg_list ?_
  have h0_16 := u16.w (u15.w (u14.w (u13.w (u12.w (u11.w (u10.w (u9.w h0_8)))))))
  refine wl_p (ex_mv h0_16) F16.l fun a17 u17 h24_17 => ?_
  have F17 := F16.pt u17
  have h1_17 := u17.w (u16.w (u15.w (u14.w (u13.w (u12.w (u11.w (u10.w (u9.w (u8.w (u7.w (u6.w (u5.w (u4.w (u3.w (u2.w (u1.w h1_0))))))))))))))))
  refine wl_p (ex_mv h1_17) F17.l fun a18 u18 h25_18 => ?_
  have F18 := F17.pt u18
  have h3_18 := u18.w (u17.w (u16.w (u15.w (u14.w (u13.w (u12.w (u11.w (u10.w (u9.w (u8.w (u7.w (u6.w (u5.w (u4.w (u3.w (u2.w (u1.w h3_0)))))))))))))))))
  refine wl_p (ex_mv h3_18) F18.l fun a19 u19 h26_19 => ?_
  have F19 := F18.pt u19
  refine wl_p (ex_bin (v := (.int .i64 (e + lp))) (u19.w h25_18) h26_19 (bo_addz (e) lp _ (by omega) (by omega))) F19.l fun a20 u20 h27_20 => ?_
  have F20 := F19.pt u20
  refine wl_p (ex_bin (vy := (.int .i64 3)) (v := (.int .i64 ((e + lp) + 3))) h27_20 rfl (bo_addz ((e + lp)) 3 _ (by omega) (by omega))) F20.l fun a21 u21 h28_21 => ?_
  have F21 := F20.pt u21
  refine wl_p (ex_un (vx := (.int .i64 ((e + lp) + 3))) (v := .int .i64 (-((e + lp) + 3))) h28_21 (uo_neg _ _ (by omega) (by omega))) F21.l fun a22 u22 h29_22 => ?_
  have F22 := F21.pt u22
  have h24_22 := u22.w (u21.w (u20.w (u19.w (u18.w h24_17))))
  refine wl_p (ex_nil h24_22) F22.l fun a23 u23 h30_23 => ?_
  have F23 := F22.pt u23
  refine wl_p (ex_fb 2 h30_23) F23.l fun a24 u24 h31_24 => ?_
  have F24 := F23.pt u24
  obtain ⟨w3, hr3, Bc_3, G3⟩ := st_run (T := 3) (o := 2) (v := (.int .i64 (-((e + lp) + 3)))) (cs' := #[(.int .u64 hi_), (.int .u64 lo_), (.int .i64 (-((e + lp) + 3)))]) (fun _ => by kernel_rfl) Bc_2 rfl (Nat.le_of_ble_eq_true rfl) rfl
  have TP_3 := TP_2.gk G3 hc (by have := Bc_2.lt; omega)
  have Q3 : w0.grownBy w3 (some c) := grown_trans Q2 G3
  refine wl_n (ex_st h31_24 (u24.w (u23.w h29_22)) hr3) ?_
  exact bodyPost_end (v := .tuple #[]) (results_none rfl _ _ _) F24.defers ⟨rfl, Bc_3, Q3⟩
end Go.Proofs.YtlphcidpaidclaaGreatDoor
namespace Go.Proofs.YtlphcidpaidclaaGreatDoor
open Go.RowKit
set_option maxRecDepth 100000

/-- the numbers of shortFloat -/
structure ShF (m e p mn mx odd s d dmin u1 u2 : Int) (i hi lo : Nat) : Prop where
  f_m : 9223372036854775808 ≤ m ∧ m < 18446744073709000000
  f_e : -200 ≤ e ∧ e ≤ 0
  f_p : 0 < p ∧ p < 100
  f_hp : (if m = 9223372036854775808 then -(((e + 11) * 631305 - 261663) / 2097152) else -((e + 11) * 78913 / 262144)) = p
  f_i : p - -348 = (i : Int)
  f_mem : (i, hi, lo) ∈ p10L
  f_i2 : i < 696
  f_mn : (if m = 9223372036854775808 then m - 512 else m - 1024) = mn
  f_mx : m + 1024 = mx
  f_odd : bits .and .i64 (m / 2048) 1 = odd
  f_odd2 : odd = 0 ∨ odd = 1
  f_s : -(e + p * 108853 / 32768 + 3) = s
  f_s2 : 0 ≤ s ∧ s < 64
  f_hi : hi < 18446744073709551616
  f_q1 : ¬ wr (sh (mulHi mn hi) s * 2 ^ s.toNat) = mulHi mn hi
  f_q2 : ¬ wr (sh (mulHi mx hi) s * 2 ^ s.toNat) = mulHi mx hi
  f_u1 : bits .or .u64 (sh (mulHi mn hi) s) 1 = u1
  f_u2 : bits .or .u64 (sh (mulHi mx hi) s) 1 = u2
  f_n1 : 0 ≤ nudgeF u1 odd ∧ nudgeF u1 odd ≤ 4611686018427387905
  f_n2 : 0 ≤ nudgeF u2 (-odd) ∧ nudgeF u2 (-odd) ≤ 4611686018427387905
  f_dmin : (nudgeF u1 odd + 3) / 4 = dmin
  f_d : nudgeF u2 (-odd) / 4 / 10 = d
  f_d2 : dmin ≤ d * 10 ∧ 0 < d ∧ d < 1000000000000000000
theorem short64_any {m e p mn mx odd s d dmin u1 u2 : Int} {i hi lo : Nat} (h : ShF m e p mn mx odd s d dmin u1 u2 i hi lo) (w : World) (ht : TabP w) (hgt : 7 < w.heap.size) :
    Calls Tryz.prog 90 #[.int .u64 m, .int .i64 e] w fun r w' => r = .returned (.tuple #[.int .u64 d, .int .i64 (-(p - 1))]) ∧ w.grownBy w' none := by
  have H := Lib.hid h
  obtain ⟨m0, m1⟩ := h.f_m
  obtain ⟨e0, e1⟩ := h.f_e
  obtain ⟨p0, p1⟩ := h.f_p
  obtain ⟨d0, d1, d3⟩ := h.f_d2
  clear h
  have HT := Lib.hid ht
  clear ht
  by_cases hm : m = 9223372036854775808
  · have hp := H.out.f_hp
    rw [if_pos hm] at hp
    have HP := Lib.hid hp
    have hmn := H.out.f_mn
    rw [if_pos hm] at hmn
    have HMN := Lib.hid hmn
    have hmt : (m == 9223372036854775808) = true := by simp [hm]
    clear hp hm hmn
    go_enter Tryz.func90, Tryz.ntmps90
    go_wp2_with fail
    refine (skewed_any (e + 11) (by omega) (by omega) w).mono ?_
    rintro r w' ⟨rfl, rfl⟩
    rw [show ((e + 11) * 631305 - 261663) / 2097152 = -p from by have := HP.out; omega]
    go_wp2_with fail
    rw [show m - 512 = mn from HMN.out, show m + 1024 = mx from H.out.f_mx, show bits .and .i64 (m / 2048) 1 = odd from H.out.f_odd]
    have hmn0 : 0 ≤ mn ∧ mn < 18446744073709551616 := by have := HMN.out; omega
    have hmx0 : 0 ≤ mx ∧ mx < 18446744073709551616 := by have := H.out.f_mx; omega
    have hhi0 : 0 ≤ (hi : Int) ∧ (hi : Int) < 18446744073709551616 := by have := H.out.f_hi; omega
    clear m0 m1
    have hB : Blk (w.alloc (.cells #[.int .u64 0, .int .u64 0, .int .i64 0] 172)) w.heap.size 172 #[.int .u64 0, .int .u64 0, .int .i64 0] := Blk.new rfl
    have hG := grown_alloc w (.cells #[.int .u64 0, .int .u64 0, .int .i64 0] 172)
    have hT1 := HT.out.gn hG hgt
    generalize w.alloc (.cells #[.int .u64 0, .int .u64 0, .int .i64 0] 172) = w1 at *
    obtain ⟨c, hc⟩ : ∃ c, w.heap.size = c := ⟨_, rfl⟩
    rw [hc] at hB hgt ⊢
    have HB := Lib.hid hB
    have HG := Lib.hid hG
    have HT1 := Lib.hid hT1
    have HC := Lib.hid hc
    clear hB hG hT1 hc
    refine (l2_any p (by omega) (by omega) w1).mono ?_
    rintro r w' ⟨rfl, rfl⟩
    go_wp2_with fail
    refine (pre_any c i hi lo e p (p * 108853 / 32768) w1 H.out.f_i H.out.f_mem H.out.f_i2 (by omega) (by omega) HB.out hgt HT1.out).mono ?_
    rintro r w2 ⟨rfl, hB2, hG2⟩
    rw [H.out.f_s] at hB2
    have HB2 := Lib.hid hB2
    have HG2 := Lib.hid hG2
    clear hB2 hG2
    go_wp2_with fail
    refine (usc1_any mn hi lo s c w2 hmn0 hhi0 H.out.f_s2 HB2.out H.out.f_q1).mono ?_
    rintro r w' ⟨rfl, rfl⟩
    rw [H.out.f_u1]
    go_wp2_with fail
    refine (nudge_any u1 odd w2).mono ?_
    rintro r w' ⟨rfl, rfl⟩
    go_wp2_with fail
    refine (uceil_any (nudgeF u1 odd) w2 H.out.f_n1.1 H.out.f_n1.2).mono ?_
    rintro r w' ⟨rfl, rfl⟩
    rw [H.out.f_dmin]
    go_wp2_with fail
    refine (usc1_any mx hi lo s c w2 hmx0 hhi0 H.out.f_s2 HB2.out H.out.f_q2).mono ?_
    rintro r w' ⟨rfl, rfl⟩
    rw [H.out.f_u2]
    have ho : -1 ≤ odd ∧ odd ≤ 1 := by have := H.out.f_odd2; omega
    go_wp2_with fail
    refine (nudge_any u2 (-odd) w2).mono ?_
    rintro r w' ⟨rfl, rfl⟩
    go_wp2_with fail
    refine (ufloor_any (nudgeF u2 (-odd)) w2 H.out.f_n2.1 H.out.f_n2.2).mono ?_
    rintro r w' ⟨rfl, rfl⟩
    have hd := H.out.f_d
    have hd4 : 0 ≤ nudgeF u2 (-odd) / 4 ∧ nudgeF u2 (-odd) / 4 ≤ 4611686018427387905 := by have := H.out.f_n2; omega
    generalize nudgeF u2 (-odd) / 4 = dm at *
    go_wp2
    refine bodyPost_ret (v := .tuple #[.int .u64 (dm / 10), .int .i64 (-(p - 1))]) ((results_tmp2 rfl _ _ _).trans rfl) rfl ⟨by rw [hd], ?_⟩
    exact ⟨HG2.out.os.trans HG.out.os, HG2.out.tape.trans HG.out.tape, HG2.out.output.trans HG.out.output, Nat.le_trans HG.out.size HG2.out.size, fun k hk _ => (HG2.out.block k (Nat.lt_of_lt_of_le hk HG.out.size) (fun e => by have := Option.some.inj e; have := HC.out; omega)).trans (HG.out.block k hk (fun e => by cases e))⟩
  · have hp := H.out.f_hp
    rw [if_neg hm] at hp
    have HP := Lib.hid hp
    have hmn := H.out.f_mn
    rw [if_neg hm] at hmn
    have HMN := Lib.hid hmn
    have hmt : (m == 9223372036854775808) = false := by simp [hm]
    clear hp hm hmn
    go_enter Tryz.func90, Tryz.ntmps90
    go_wp2_with fail
    refine (l10_any (e + 11) (by omega) (by omega) w).mono ?_
    rintro r w' ⟨rfl, rfl⟩
    rw [show (e + 11) * 78913 / 262144 = -p from by have := HP.out; omega]
    go_wp2_with fail
    rw [show m - 1024 = mn from HMN.out, show m + 1024 = mx from H.out.f_mx, show bits .and .i64 (m / 2048) 1 = odd from H.out.f_odd]
    have hmn0 : 0 ≤ mn ∧ mn < 18446744073709551616 := by have := HMN.out; omega
    have hmx0 : 0 ≤ mx ∧ mx < 18446744073709551616 := by have := H.out.f_mx; omega
    have hhi0 : 0 ≤ (hi : Int) ∧ (hi : Int) < 18446744073709551616 := by have := H.out.f_hi; omega
    clear m0 m1
    have hB : Blk (w.alloc (.cells #[.int .u64 0, .int .u64 0, .int .i64 0] 172)) w.heap.size 172 #[.int .u64 0, .int .u64 0, .int .i64 0] := Blk.new rfl
    have hG := grown_alloc w (.cells #[.int .u64 0, .int .u64 0, .int .i64 0] 172)
    have hT1 := HT.out.gn hG hgt
    generalize w.alloc (.cells #[.int .u64 0, .int .u64 0, .int .i64 0] 172) = w1 at *
    obtain ⟨c, hc⟩ : ∃ c, w.heap.size = c := ⟨_, rfl⟩
    rw [hc] at hB hgt ⊢
    have HB := Lib.hid hB
    have HG := Lib.hid hG
    have HT1 := Lib.hid hT1
    have HC := Lib.hid hc
    clear hB hG hT1 hc
    refine (l2_any p (by omega) (by omega) w1).mono ?_
    rintro r w' ⟨rfl, rfl⟩
    go_wp2_with fail
    refine (pre_any c i hi lo e p (p * 108853 / 32768) w1 H.out.f_i H.out.f_mem H.out.f_i2 (by omega) (by omega) HB.out hgt HT1.out).mono ?_
    rintro r w2 ⟨rfl, hB2, hG2⟩
    rw [H.out.f_s] at hB2
    have HB2 := Lib.hid hB2
    have HG2 := Lib.hid hG2
    clear hB2 hG2
    go_wp2_with fail
    refine (usc1_any mn hi lo s c w2 hmn0 hhi0 H.out.f_s2 HB2.out H.out.f_q1).mono ?_
    rintro r w' ⟨rfl, rfl⟩
    rw [H.out.f_u1]
    go_wp2_with fail
    refine (nudge_any u1 odd w2).mono ?_
    rintro r w' ⟨rfl, rfl⟩
    go_wp2_with fail
    refine (uceil_any (nudgeF u1 odd) w2 H.out.f_n1.1 H.out.f_n1.2).mono ?_
    rintro r w' ⟨rfl, rfl⟩
    rw [H.out.f_dmin]
    go_wp2_with fail
    refine (usc1_any mx hi lo s c w2 hmx0 hhi0 H.out.f_s2 HB2.out H.out.f_q2).mono ?_
    rintro r w' ⟨rfl, rfl⟩
    rw [H.out.f_u2]
    have ho : -1 ≤ odd ∧ odd ≤ 1 := by have := H.out.f_odd2; omega
    go_wp2_with fail
    refine (nudge_any u2 (-odd) w2).mono ?_
    rintro r w' ⟨rfl, rfl⟩
    go_wp2_with fail
    refine (ufloor_any (nudgeF u2 (-odd)) w2 H.out.f_n2.1 H.out.f_n2.2).mono ?_
    rintro r w' ⟨rfl, rfl⟩
    have hd := H.out.f_d
    have hd4 : 0 ≤ nudgeF u2 (-odd) / 4 ∧ nudgeF u2 (-odd) / 4 ≤ 4611686018427387905 := by have := H.out.f_n2; omega
    generalize nudgeF u2 (-odd) / 4 = dm at *
    go_wp2
    refine bodyPost_ret (v := .tuple #[.int .u64 (dm / 10), .int .i64 (-(p - 1))]) ((results_tmp2 rfl _ _ _).trans rfl) rfl ⟨by rw [hd], ?_⟩
    exact ⟨HG2.out.os.trans HG.out.os, HG2.out.tape.trans HG.out.tape, HG2.out.output.trans HG.out.output, Nat.le_trans HG.out.size HG2.out.size, fun k hk _ => (HG2.out.block k (Nat.lt_of_lt_of_le hk HG.out.size) (fun e => by have := Option.some.inj e; have := HC.out; omega)).trans (HG.out.block k hk (fun e => by cases e))⟩
end Go.Proofs.YtlphcidpaidclaaGreatDoor
namespace Go.Proofs.YtlphcidpaidclaaGreatDoor
open Go.RowKit Go.Shelf Go.Sort Go.Lib
set_option maxRecDepth 100000

theorem grown_putRow (enc : UInt8 → Value) (w : World) (g off : Nat) (d : Array UInt8) (n : Nat) : w.grownBy ((putRow enc w g off d).drewN n) (some g) :=
  ⟨rfl, rfl, rfl, by show _ ≤ (putRow enc w g off d).heap.size; rw [size_putRow]; exact Nat.le_refl _, fun k hk hne => by
    show (putRow enc w g off d).heap[k]? = w.heap[k]?
    unfold putRow mapBlock
    simp only
    rw [Array.getElem?_modify, if_neg (fun e => hne (by rw [e]))]⟩
theorem blk_putRow (enc : UInt8 → Value) {w : World} {g T : Nat} {cs : Array Value} (hb : Blk w g T cs) (off : Nat) (d : Array UInt8) (n : Nat) : ∃ cs', Blk ((putRow enc w g off d).drewN n) g T cs' := by
  unfold Blk at hb ⊢
  show ∃ cs', (putRow enc w g off d).heap[g]? = _
  unfold putRow mapBlock
  simp only
  rw [Array.getElem?_modify, if_pos rfl, hb]
  exact ⟨_, rfl⟩
theorem fb10_any (g T N u : Nat) (w : World) (hb : Blk w g T (Array.replicate N (.int .u8 0))) (h1 : 1 ≤ u) (hu : u < 1000000000000000000) (hN : 20 ≤ N) :
    Calls Tryz.prog 66 #[.slice (some ⟨g, 0, none⟩) (nDigits u) N, .int .u64 u] w fun e w' => e = .returned (.tuple #[]) ∧ (∀ j (h : j < (decDigits u).length), w'.cell? ⟨g, j, none⟩ = some (.int .u8 ((decDigits u)[j].toNat))) ∧ w.grownBy w' (some g) ∧ ∃ cs, Blk w' g T cs := by
  have hnd : nDigits u ≤ 20 := by have := Lib.numDigits_eq u h1 (by omega); split at this <;> omega
  have hH : Holds (fun (b : UInt8) => Value.int .u8 (b.toNat : Int)) w g 0 (Array.replicate (nDigits u) (0 : UInt8)) := fun j hj => by
    have hj' : j < nDigits u := by simpa using hj
    refine ⟨?_, hb.frozen _⟩
    rw [hb.cell, Array.getElem?_replicate, if_pos (by omega), getElem!_pos _ j hj]
    simp
  have h := Any.internal_strconv_formatBase10 { Tryz.fmtInt with } g 0 N u (Array.replicate (nDigits u) 0) w hH (by rw [Array.size_replicate]; exact Lib.lt_pow_nDigits u) (by omega) (by rw [Array.size_replicate]; omega)
  rw [Array.size_replicate] at h
  refine h.mono ?_
  rintro e w' ⟨rfl, n, v', dk, rfl, hF⟩
  refine ⟨rfl, fun j hj => ?_, grown_putRow _ _ _ _ _ _, blk_putRow _ hb _ _ _⟩
  have hj2 : j < nDigits u := by rw [Lib.decDigits_length] at hj; exact hj
  rw [Lib.row_is_numeral hF j hj]
  have := cell?_putRow (fun (b : UInt8) => Value.int .u8 (b.toNat : Int)) w g 0 _ dk hH (by rw [hF.size, Array.size_replicate]) j (by rw [hF.size]; exact hj2)
  rw [Nat.zero_add] at this
  exact this
theorem setD_any (g T N u z : Nat) (p : Int) (tr : List UInt8) (w : World) (hb : Blk w g T (Array.replicate N (.int .u8 0))) (h1 : 1 ≤ u) (hu : u < 1000000000000000000) (hN : 20 ≤ N) (hN2 : N ≤ 32) (hp : -100 ≤ p ∧ p ≤ 100)
    (hd : decDigits u = tr ++ List.replicate z 48) (h0 : 0 < tr.length) (hl : ∀ h, tr[tr.length - 1]'h ≠ 48) :
    Calls Tryz.prog 85 #[.slice (some ⟨g, 0, none⟩) N N, .int .u64 u, .int .i64 p, .int .i64 (nDigits u)] w fun e w' => e = .returned (.tuple #[.int .i64 (nDigits u + p), .int .i64 tr.length]) ∧ (∃ cs, Blk w' g T cs ∧ ∀ j (h : j < tr.length), cs[j]? = some (.int .u8 (tr[j].toNat))) ∧ w.grownBy w' (some g) := by
  have HF := Lib.hid (fb10_any g T N u w hb h1 hu hN)
  have hnd : nDigits u ≤ 20 := by have := Lib.numDigits_eq u h1 (by omega); split at this <;> omega
  have hlen : nDigits u = tr.length + z := by rw [← Lib.decDigits_length, hd]; simp
  have hlast : ∀ j (h : j < tr.length), (decDigits u)[j]? = some (tr[j]'h) := fun j h => by rw [hd, List.getElem?_append_left h, List.getElem?_eq_getElem h]
  have hzero : ∀ j, tr.length ≤ j → j < nDigits u → (decDigits u)[j]? = some 48 := fun j h1 h2 => by
    rw [hd, List.getElem?_append_right h1, List.getElem?_replicate, if_pos (by omega)]
  have hdl : (decDigits u).length = nDigits u := Lib.decDigits_length u
  have HD := Lib.hid hlast
  have HZ := Lib.hid hzero
  have HL := Lib.hid hl
  have HDL := Lib.hid hdl
  clear hb hd hl hlast hzero hdl
  generalize nDigits u = nd at *
  have HN := Lib.hid hlen
  have hle : tr.length + z ≤ 20 := by omega
  clear hlen
  obtain ⟨p0, p1⟩ := hp
  go_enter Tryz.func85, Tryz.ntmps85
  go_wp2_with fail
  refine HF.out.mono ?_
  rintro e w1 ⟨rfl, hc, hg, cs1, hb1⟩
  have HB1 := Lib.hid hb1
  clear hb1
  have HC : Hid (∀ j, j < nd → ∀ d, (decDigits u)[j]? = some d → w1.cell? ⟨g, j, none⟩ = some (.int .u8 d.toNat)) := Lib.hid fun j hj d hd => by
    have hj' : j < (decDigits u).length := by rw [HDL.out]; exact hj
    rw [List.getElem?_eq_getElem hj'] at hd
    rw [hc j hj', Option.some.inj hd]
  have HG := Lib.hid hg
  clear hc hg
  go_wp2_with fail
  go_loop [3] (fun v => ∃ i, i ≤ z ∧ v = .int .i64 (tr.length + i : Nat)) (fun v => (RowKit.intOf v).toNat)
  case atStart => exact ⟨z, Nat.le_refl _, by rw [HN.out]⟩
  case round =>
    obtain ⟨i, hi, rfl⟩ := hrel
    by_cases hi0 : i = 0
    · subst hi0
      have hcl : w1.cell? ⟨g, tr.length - 1, none⟩ = some (.int .u8 ((tr[tr.length - 1]'(Nat.sub_lt h0 Nat.one_pos)).toNat)) := HC.out _ (by have := HN.out; omega) _ (HD.out _ (Nat.sub_lt h0 Nat.one_pos))
      have hne : ¬ ((tr[tr.length - 1]'(Nat.sub_lt h0 Nat.one_pos)).toNat : Int) = 48 := by
        intro e
        exact HL.out (Nat.sub_lt h0 Nat.one_pos) (UInt8.toNat_inj.1 (by show _ = 48; omega))
      generalize (tr[tr.length - 1]'(Nat.sub_lt h0 Nat.one_pos)).toNat = dl at *
      go_wp2
      exact bodyPost_ret (v := .tuple #[.int .i64 (nd + p), .int .i64 tr.length]) ((results_tmp2 rfl _ _ _).trans rfl) rfl ⟨rfl, ⟨cs1, HB1.out, fun j hj => by rw [← HB1.out.cell j]; exact HC.out j (by have := HN.out; omega) _ (HD.out j hj)⟩, HG.out⟩
    · have hcl : w1.cell? ⟨g, tr.length + i - 1, none⟩ = some (.int .u8 48) := HC.out _ (by have := HN.out; omega) _ (HZ.out _ (by omega) (by have := HN.out; omega))
      go_wp2
      refine ⟨⟨i - 1, by omega, congrArg (Value.int .i64) (by omega)⟩, ?_⟩
      show ((tr.length : Int) + i - 1).toNat < ((tr.length + i : Nat) : Int).toNat
      omega
end Go.Proofs.YtlphcidpaidclaaGreatDoor
