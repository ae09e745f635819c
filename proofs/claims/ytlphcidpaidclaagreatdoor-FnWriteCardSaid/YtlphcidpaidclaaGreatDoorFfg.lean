/-
  A number's digits behind a slice; numbers for internal/strconv.fmtEFG.
-/
import Derived.Test.YtlphcidpaidclaaGreatDoorFfe
import Derived.Test.YtlphcidpaidclaaGreatDoorSgo
namespace Go.Proofs.YtlphcidpaidclaaGreatDoor
open Go.RowKit
set_option maxRecDepth 100000

/-- digits behind a slice of their own block, or none -/
def Digs (w : World) (sval : Value) (ds : List UInt8) : Prop :=
  ds = [] ∨ ∃ gs T N cs, T ≠ 5 ∧ sval = .slice (some ⟨gs, 0, none⟩) N N ∧ ds.length ≤ N ∧ Blk w gs T cs ∧ ∀ j (h : j < ds.length), cs[j]? = some (.int .u8 ds[j].toNat)
section
variable {w w' : World} {sval v : Value} {ds : List UInt8} {base n e size B : Nat} {xs : List Value} {l : List UInt8}
theorem Digs.gn (h : Digs w sval ds) (G : w.grownBy w' none) : Digs w' sval ds := by
  rcases h with h | ⟨gs, T, N, cs, h1, h2, h3, h4, h5⟩
  · exact Or.inl h
  · exact Or.inr ⟨gs, T, N, cs, h1, h2, h3, h4.gn G, h5⟩
theorem Digs.row (h : Digs w sval ds) (HO : BRow w base v l) (G : w.grownBy w' v.ownBlock) : Digs w' sval ds := by
  rcases h with h | ⟨gs, T, N, cs, h1, h2, h3, h4, h5⟩
  · exact Or.inl h
  · exact Or.inr ⟨gs, T, N, cs, h1, h2, h3, Blk.row h4 HO h1 G, h5⟩
theorem ix8_run (g n c j : Nat) (hj : j < n) (w : World) : (Instr.indexAt 23 (.slice (some ⟨g, 0, none⟩) n c) (.int .i64 j)).run Tryz.prog w = .ok (.pointer (some ⟨g, j, none⟩)) w := by
  have h1 : (j : Int) < (n : Int) := by omega
  have h2 : (0 : Int) ≤ (j : Int) := by omega
  simp [go_sem, h1, h2]
theorem sl8_run (ao : Option Addr) (len cap m : Nat) (h : m ≤ cap) (w : World) : (Instr.sliceAt 23 (.slice ao len cap) none (some (.int .i64 m)) none).run Tryz.prog w = .ok (.slice ao m cap) w := by
  have h1 : (m : Int) ≤ (cap : Int) := by omega
  simp [go_sem, h1]
theorem Digs.elem (h : Digs w sval ds) {j : Nat} (hj : j < ds.length) :
    ∃ ad, (∀ w', (Instr.indexAt 23 sval (.int .i64 j)).run Tryz.prog w' = .ok (.pointer (some ad)) w') ∧ w.cell? ad = some (.int .u8 (ds[j].toNat)) := by
  rcases h with rfl | ⟨gs, T, N, cs, h1, rfl, h3, h4, h5⟩
  · cases hj
  · exact ⟨⟨gs, j, none⟩, fun w' => ix8_run gs N N j (by omega) w', (h4.cell j).trans (h5 j hj)⟩
/-- the first m digits as a slice -/
theorem Digs.slice (h : Digs w sval ds) {m : Nat} (hm : m ≤ ds.length) (h0 : 0 < ds.length) :
    ∃ sv2, (∀ w', (Instr.sliceAt 23 sval none (some (.int .i64 m)) none).run Tryz.prog w' = .ok sv2 w') ∧ (∀ {ty : TypeId} {cb : Array Bool} (w' : World), (builtin .len #[23] ty cb #[sv2]).run Tryz.prog w' = .ok (.value (.int .i64 m)) w') ∧
      ∀ (w2 : World), Digs w2 sval ds → ∀ j (hj : j < m), ∃ ad, (∀ w', (Instr.indexAt 23 sv2 (.int .i64 j)).run Tryz.prog w' = .ok (.pointer (some ad)) w') ∧ w2.cell? ad = some (.int .u8 ((ds[j]'(Nat.lt_of_lt_of_le hj hm)).toNat)) := by
  rcases h with rfl | ⟨gs, T, N, cs, h1, rfl, h3, h4, h5⟩
  · cases h0
  · refine ⟨.slice (some ⟨gs, 0, none⟩) m N, fun w' => sl8_run _ _ _ _ (by omega) w', fun w' => by kernel_rfl, fun w2 hD j hj => ⟨⟨gs, j, none⟩, fun w' => ix8_run gs m N j hj w', ?_⟩⟩
    obtain ⟨ad, h6, h7⟩ := hD.elem (Nat.lt_of_lt_of_le hj hm)
    have h8 := (h6 w2).symm.trans (ix8_run gs N N j (by omega) w2)
    have : ad = ⟨gs, j, none⟩ := by
      injection h8 with h8
      injection h8 with h8
      injection h8
    rw [← this]; exact h7
theorem own_base' {w : World} {base : Nat} {e : TypeId} {size n : Nat} {v : Value} {xs : List Value} (h : w.ownsRow base e size v n xs) : ∀ b, v.ownBlock = some b → base ≤ b := by
  intro b hb
  rcases h.2 with ⟨rfl, _⟩ | ⟨g, cap, cur, rfl, hg, _⟩
  · cases hb
  · simp [Value.ownBlock] at hb; omega
theorem below_gn (h : Below B w w') {w2 : World} (hB : B ≤ w'.heap.size) (G : w'.grownBy w2 none) : Below B w w2 := h.trans ⟨G.os, G.tape, G.output, G.size, fun k hk => G.block k (by omega) (fun e => by cases e)⟩
theorem below_row (h : Below B w w') {w2 : World} (hB : B ≤ w'.heap.size) (HO : BRow w' B v l) (G : w'.grownBy w2 v.ownBlock) : Below B w w2 := h.grown G hB fun k hk => own_base' HO k hk
end
section
variable {x y : Operand}
theorem bo_gtr0 (n : Nat) (w : World) : (do eqGuard .gtr 3 x y (.int .i64 n) (.int .i64 0); binOp .gtr 3 (.int .i64 n) (.int .i64 0) : Sem Value).run Tryz.prog w = .ok (.bool (decide (0 < n))) w := by
  simp [go_sem]
theorem bo_subn (m n : Nat) (h : n ≤ m) (w : World) (hm : m < 1000000) : (do eqGuard .sub 3 x y (.int .i64 m) (.int .i64 n); binOp .sub 3 (.int .i64 m) (.int .i64 n) : Sem Value).run Tryz.prog w = .ok (.int .i64 (m - n : Nat)) w := by
  simp [go_sem]
  rw [IntKind.wrap_i64]; omega
theorem bo_subi (m n : Nat) (w : World) (hm : m < 1000000) (hn : n < 1000000) : (do eqGuard .sub 3 x y (.int .i64 m) (.int .i64 n); binOp .sub 3 (.int .i64 m) (.int .i64 n) : Sem Value).run Tryz.prog w = .ok (.int .i64 ((m : Int) - n)) w := by
  simp [go_sem]
  rw [IntKind.wrap_i64]; omega
end
theorem minN_run {ats : Array TypeId} {ty : TypeId} {cs : Array Bool} (m n : Nat) (w : World) : (builtin .min ats ty cs #[.int .i64 m, .int .i64 n]).run Tryz.prog w = .ok (.value (.int .i64 (min m n : Nat))) w := by
  rcases Nat.lt_or_ge m n with h | h
  · simp [go_sem]
    omega
  · simp [go_sem]
    omega
theorem max0_run {ats : Array TypeId} {ty : TypeId} {cs : Array Bool} (n : Int) (w : World) : (builtin .max ats ty cs #[.int .i64 0, .int .i64 n]).run Tryz.prog w = .ok (.value (.int .i64 (n.toNat : Nat))) w := by
  rcases Int.lt_or_le 0 n with h | h
  · simp [go_sem]
    omega
  · simp [go_sem]
    omega
/-- a number's text, from its digits and where the point stands -/
def efgT (ds : List UInt8) (dp prec : Nat) : List UInt8 :=
  (if 0 < dp then ds.take (min ds.length dp) ++ List.replicate (dp - min ds.length dp) 48 else [48]) ++
  (if 0 < prec then [46] ++ (ds.drop dp).take (min prec (ds.length - dp)) ++ List.replicate (prec - min prec (ds.length - dp)) 48 else [])
end Go.Proofs.YtlphcidpaidclaaGreatDoor
namespace Go.Proofs.YtlphcidpaidclaaGreatDoor
open Go.RowKit
set_option maxRecDepth 100000

def divF (u : Int) : Int := bits .or .u64 (bits .or .u64 (u / 10) (bits .and .u64 u 1)) (if u % 10 = 0 then 0 else 1)
theorem b2r_s (q : Bool) (w : World) : Calls Tryz.prog 121 #[.bool q] w fun e w' => e = .returned (.int .u64 (if q then 1 else 0)) ∧ w' = w := (b2r_any q w).mono fun _ _ h => ⟨h.1, h.2.symm⟩
theorem div_any (u : Int) (h0 : 0 ≤ u) (h1 : u < 18446744073709551616) (w : World) :
    Calls Tryz.prog 108 #[.int .u64 u, .int .u64 10] w fun e w' => e = .returned (.int .u64 (divF u)) ∧ ∃ k, w' = w.drewN k := by
  obtain ⟨R, hR⟩ : ∃ R, R = divF u := ⟨_, rfl⟩
  have HR := Lib.hid hR
  rw [← hR]
  clear hR
  unfold divF at HR
  go_enter Tryz.func108, Tryz.ntmps108
  go_wp2_with fail
  go_quiet ((go_at_call 121; exact Calls.quiet_of_same (b2r_s _ _)))
  go_wp2
  all_goals
    go_ret
    refine ⟨ret_int ?_, _, rfl⟩
    rw [HR.out]
    first | rw [if_pos (by assumption)] | rw [if_neg (by assumption)]
/-- the numbers of fixedWidthFloat -/
structure FxF (m e p s u d : Int) (n i hi lo tn : Nat) (big : Bool) : Prop where
  f_m : 0 ≤ m ∧ m < 18446744073709551616
  f_e : -200 ≤ e ∧ e ≤ 0
  f_n : n = 4 ∨ n = 5
  f_p : (n : Int) - 1 - (e + 63) * 78913 / 262144 = p
  f_p2 : p = 3 ∨ p = 4
  f_i : p - -348 = (i : Int)
  f_mem : (i, hi, lo) ∈ p10L
  f_i2 : i < 696
  f_hi : hi < 18446744073709551616
  f_lo : lo < 18446744073709551616
  f_s : -(e + p * 108853 / 32768 + 3) = s
  f_s2 : 0 ≤ s ∧ s < 64
  f_q : wr (sh (mulHi m hi) s * 2 ^ s.toNat) = mulHi m hi
  f_u : us2 m hi lo s = u
  f_u2 : 0 ≤ u ∧ u ≤ 4611686018427387905
  f_v : 0 ≤ divF u ∧ divF u ≤ 4611686018427387905
  f_tn : Lib.pow10Tab.getD n 0 = tn
  f_tn2 : 1 ≤ tn ∧ tn ≤ 1000000000
  f_big : decide ((tn : Int) * 4 - 2 ≤ u) = big
  f_big2 : big = true → p = 4
  f_d : roundF (if p = 3 then u else divF u) = d
theorem Kp_drewN {w : World} (k : Nat) : w.grownBy (w.drewN k) none := ⟨rfl, rfl, rfl, Nat.le_refl _, fun _ _ _ => rfl⟩
theorem fixed_any {m e p s u d : Int} {n i hi lo tn : Nat} {big : Bool} (h : FxF m e p s u d n i hi lo tn big) (w : World) (ht : TabP w) (hgt : 7 < w.heap.size) :
    Calls Tryz.prog 86 #[.int .u64 m, .int .i64 e, .int .i64 n, .int .i64 3, .int .u8 102] w fun r w' => r = .returned (.tuple #[.int .u64 d, .int .i64 (-3)]) ∧ w.grownBy w' none := by
  have H := Lib.hid h
  obtain ⟨e0, e1⟩ := h.f_e
  have hn := h.f_n
  have hn2 : 4 ≤ n ∧ n ≤ 5 := by omega
  have hp2 := h.f_p2
  have hp3 : 3 ≤ p ∧ p ≤ 4 := by omega
  clear h hn hp2
  have HT := Lib.hid ht
  clear ht
  go_enter Tryz.func86, Tryz.ntmps86
  go_wp2_with fail
  refine (l10_any (e + 63) (by omega) (by omega) w).mono ?_
  rintro r w' ⟨rfl, rfl⟩
  go_wp2_with fail
  rw [H.out.f_p]
  have hm0 := H.out.f_m
  have hhi0 : 0 ≤ (hi : Int) ∧ (hi : Int) < 18446744073709551616 := by have := H.out.f_hi; omega
  have hlo0 : 0 ≤ (lo : Int) ∧ (lo : Int) < 18446744073709551616 := by have := H.out.f_lo; omega
  have hB : Blk (w.alloc (.cells #[.int .u64 0, .int .u64 0, .int .i64 0] 172)) w.heap.size 172 #[.int .u64 0, .int .u64 0, .int .i64 0] := Blk.new rfl
  have hG := grown_alloc w (.cells #[.int .u64 0, .int .u64 0, .int .i64 0] 172)
  have hT1 := HT.out.gn hG hgt
  generalize w.alloc (.cells #[.int .u64 0, .int .u64 0, .int .i64 0] 172) = w1 at *
  obtain ⟨c, hc⟩ : ∃ c, w.heap.size = c := ⟨_, rfl⟩
  rw [hc] at hB hgt ⊢
  have HB := Lib.hid hB
  have HG := Lib.hid hG
  have HT1 := Lib.hid hT1
  have HC := Lib.hid hc
  clear hB hG hT1 hc
  refine (l2_any p (by omega) (by omega) w1).mono ?_
  rintro r w' ⟨rfl, rfl⟩
  go_wp2_with fail
  refine (pre_any c i hi lo e p (p * 108853 / 32768) w1 H.out.f_i H.out.f_mem H.out.f_i2 (by omega) (by omega) HB.out hgt HT1.out).mono ?_
  rintro r w2 ⟨rfl, hB2, hG2⟩
  rw [H.out.f_s] at hB2
  have hlt := HB.out.lt
  have hT2 := HT1.out.gk hG2 hgt (by omega)
  have HB2 := Lib.hid hB2
  have HG2 := Lib.hid hG2
  have HT2 := Lib.hid hT2
  clear hB2 hG2 hT2
  go_wp2_with fail
  refine (usc2_any m hi lo s c w2 hm0 hhi0 hlo0 H.out.f_s2 HB2.out H.out.f_q).mono ?_
  rintro r w3 ⟨rfl, hG3⟩
  rw [H.out.f_u]
  have hlt2 := HB2.out.lt
  have hT3 := HT2.out.gn hG3 (by omega)
  have hcell : w3.cell? ⟨3, n, none⟩ = some (.int .u64 tn) := by
    rw [hT3.u.cell gTabP n (by show n < 20; omega), H.out.f_tn]
  have HG3 := Lib.hid hG3
  clear hG3 hT3
  obtain ⟨u0, u1⟩ := H.out.f_u2
  obtain ⟨v0, v1⟩ := H.out.f_v
  obtain ⟨t0, t1⟩ := H.out.f_tn2
  have HU : ∀ {w4 : World} {k : Nat}, w4 = w3.drewN k → w.grownBy w4 none := by
    rintro w4 k rfl
    have a1 := HG.out
    have a2 := HG2.out
    have a3 := HG3.out
    have hcc := HC.out
    exact ⟨a3.os.trans (a2.os.trans a1.os), a3.tape.trans (a2.tape.trans a1.tape), a3.output.trans (a2.output.trans a1.output), Nat.le_trans a1.size (Nat.le_trans a2.size a3.size), fun k hk _ => (a3.block k (Nat.lt_of_lt_of_le (Nat.lt_of_lt_of_le hk a1.size) a2.size) (fun e => by cases e)).trans ((a2.block k (Nat.lt_of_lt_of_le hk a1.size) (fun e => by have := Option.some.inj e; omega)).trans (a1.block k hk (fun e => by cases e)))⟩
  have HUU : Hid (∀ (w4 : World) (k : Nat), w4 = w3.drewN k → w.grownBy w4 none) := Lib.hid fun w4 k => @HU w4 k
  clear HU
  go_wp2_with fail
  refine (unmin_any tn w3 (by omega) (by omega)).mono ?_
  rintro r w' ⟨rfl, rfl⟩
  have hbig := H.out.f_big
  have hbig2 := H.out.f_big2
  have HD := Lib.hid H.out.f_d
  cases big with
  | false =>
    have hb : ¬ ((tn : Int) * 4 - 2 ≤ u) := by simpa using hbig
    clear hbig hbig2
    go_wp2_with fail
    go_loopw [11, 13] (fun pv uv wx => ∃ k, wx = w3.drewN k ∧ ((pv = .int .i64 3 ∧ uv = .int .u64 (if p = 3 then u else divF u)) ∨ (p = 4 ∧ pv = .int .i64 4 ∧ uv = .int .u64 u))) (fun pv _ _ => (RowKit.intOf pv).toNat)
    case atStart =>
      refine ⟨0, (World.drewN_zero _).symm, ?_⟩
      have hp34 : p = 3 ∨ p = 4 := by omega
      by_cases e : p = 3
      · exact Or.inl ⟨by rw [e], by rw [if_pos e]⟩
      · have e4 : p = 4 := by omega
        exact Or.inr ⟨e4, by rw [e4], rfl⟩
    case round =>
      obtain ⟨k, rfl, ⟨rfl, rfl⟩ | ⟨hp4, rfl, rfl⟩⟩ := hrel
      · have hx : 0 ≤ (if p = 3 then u else divF u) ∧ (if p = 3 then u else divF u) ≤ 4611686018427387905 := by split <;> omega
        generalize (if p = 3 then u else divF u) = x at *
        go_wp2_with fail
        refine (uround_any x _ hx.1 hx.2).mono ?_
        rintro r w' ⟨rfl, rfl⟩
        rw [HD.out]
        go_wp2_with fail
        exact bodyPost_ret (v := .tuple #[.int .u64 d, .int .i64 (-3)]) ((results_tmp2 rfl _ _ _).trans rfl) rfl ⟨rfl, HUU.out _ k rfl⟩
      · have HP4 := Lib.hid hp4
        clear hp4
        go_wp2_with fail
        refine (div_any u (by omega) (by omega) _).mono ?_
        rintro r w' ⟨rfl, k2, rfl⟩
        go_wp2_with fail
        go_roundw
        case rel => exact ⟨k + k2, rfl, Or.inl ⟨rfl, by rw [if_neg (by have := HP4.out; omega)]⟩⟩
        case measure => simp [RowKit.intOf]
  | true =>
    have hb : (tn : Int) * 4 - 2 ≤ u := by simpa using hbig
    have hp4 : p = 4 := hbig2 rfl
    clear hbig hbig2
    have HP4 := Lib.hid hp4
    clear hp4
    go_wp2_with fail
    refine (div_any u (by omega) (by omega) _).mono ?_
    rintro r w' ⟨rfl, k0, rfl⟩
    go_wp2_with fail
    go_loopw [11, 13] (fun pv uv wx => ∃ k, wx = w3.drewN k ∧ ((pv = .int .i64 3 ∧ uv = .int .u64 (if p = 3 then u else divF u)) ∨ (p = 4 ∧ pv = .int .i64 4 ∧ uv = .int .u64 u))) (fun pv _ _ => (RowKit.intOf pv).toNat)
    case atStart => exact ⟨k0, rfl, Or.inl ⟨congrArg (Value.int .i64) (by have := HP4.out; omega), by rw [if_neg (by have := HP4.out; omega)]⟩⟩
    case round =>
      obtain ⟨k, rfl, ⟨rfl, rfl⟩ | ⟨hp4, rfl, rfl⟩⟩ := hrel
      · have hx : 0 ≤ (if p = 3 then u else divF u) ∧ (if p = 3 then u else divF u) ≤ 4611686018427387905 := by split <;> omega
        generalize (if p = 3 then u else divF u) = x at *
        go_wp2_with fail
        refine (uround_any x _ hx.1 hx.2).mono ?_
        rintro r w' ⟨rfl, rfl⟩
        rw [HD.out]
        go_wp2_with fail
        exact bodyPost_ret (v := .tuple #[.int .u64 d, .int .i64 (-3)]) ((results_tmp2 rfl _ _ _).trans rfl) rfl ⟨rfl, HUU.out _ k rfl⟩
      · have HP4 := Lib.hid hp4
        clear hp4
        go_wp2_with fail
        refine (div_any u (by omega) (by omega) _).mono ?_
        rintro r w' ⟨rfl, k2, rfl⟩
        go_wp2_with fail
        go_roundw
        case rel => exact ⟨k + k2, rfl, Or.inl ⟨rfl, by rw [if_neg (by have := HP4.out; omega)]⟩⟩
        case measure => simp [RowKit.intOf]
end Go.Proofs.YtlphcidpaidclaaGreatDoor
