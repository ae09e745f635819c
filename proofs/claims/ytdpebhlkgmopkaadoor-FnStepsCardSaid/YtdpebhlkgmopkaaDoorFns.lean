/-
 FnSteps: what holds in the law's loop ahead of a step and behind it.
-/
import Derived.Test.YtdpebhlkgmopkaaDoorSam
namespace Go.Proofs.YtdpebhlkgmopkaaDoor
open Go.RowKit
set_option maxRecDepth 100000
noncomputable def fsB : Code := Tryd.f3.body.getD .skip
/-- a number of 32 bits, shifted -/
def sh (n k : Nat) : Nat := n / 2 ^ min k 32
theorem sh_lt {n k m : Nat} (h : n < m) : sh n k < m := Nat.lt_of_le_of_lt (Nat.div_le_self _ _) h
section
variable {x y : Operand}
theorem uu_shr (n k : Nat) (w : World) : (do eqGuard .shr 27 x y (.int .u32 n) (.int .u64 k); binOp .shr 27 (.int .u32 n) (.int .u64 k) : Sem Value).run Tryd.prog w = .ok (.int .u32 (sh n k : Nat)) w := by
 simp [go_sem, sh]
theorem uu_rem (n k : Nat) (hk : 0 < k) (w : World) : (do eqGuard .rem 27 x y (.int .u32 n) (.int .u32 k); binOp .rem 27 (.int .u32 n) (.int .u32 k) : Sem Value).run Tryd.prog w = .ok (.int .u32 (n % k : Nat)) w := by
 simp [go_sem]
 rw [if_neg (by omega), Int.tmod_eq_emod_of_nonneg (by omega)]
theorem uu_add (n k : Nat) (h : n + k < 4294967296) (w : World) : (do eqGuard .add 27 x y (.int .u32 n) (.int .u32 k); binOp .add 27 (.int .u32 n) (.int .u32 k) : Sem Value).run Tryd.prog w = .ok (.int .u32 (n + k : Nat)) w := by
 simp [go_sem]
 rw [IntKind.wrap_u32]; omega
theorem uu_mulw (n k : Nat) : ∃ r : Nat, r < 4294967296 ∧ ∀ (x y : Operand) (w : World), (do eqGuard .mul 27 x y (.int .u32 n) (.int .u32 k); binOp .mul 27 (.int .u32 n) (.int .u32 k) : Sem Value).run Tryd.prog w = .ok (.int .u32 r) w := by
 refine ⟨(n * k) % 4294967296, Nat.mod_lt _ (by decide), fun x y w => ?_⟩
 simp [go_sem]
 have h : IntKind.wrap .u32 ((n : Int) * k) = ((n : Int) * k) % 4294967296 := rfl
 rw [h]
theorem uu_addw (n k : Nat) : ∃ r : Nat, r < 4294967296 ∧ ∀ (x y : Operand) (w : World), (do eqGuard .add 27 x y (.int .u32 n) (.int .u32 k); binOp .add 27 (.int .u32 n) (.int .u32 k) : Sem Value).run Tryd.prog w = .ok (.int .u32 r) w := by
 refine ⟨(n + k) % 4294967296, Nat.mod_lt _ (by decide), fun x y w => ?_⟩
 simp [go_sem]
 have h : IntKind.wrap .u32 ((n : Int) + k) = ((n : Int) + k) % 4294967296 := rfl
 rw [h]
theorem ub_rem (n k : Nat) (hk : 0 < k) (w : World) : (do eqGuard .rem 5 x y (.int .u8 n) (.int .u8 k); binOp .rem 5 (.int .u8 n) (.int .u8 k) : Sem Value).run Tryd.prog w = .ok (.int .u8 (n % k : Nat)) w := by
 simp [go_sem]
 rw [if_neg (by omega), Int.tmod_eq_emod_of_nonneg (by omega)]
theorem ui_rem (n k : Nat) (hk : 0 < k) (w : World) : (do eqGuard .rem 3 x y (.int .i64 n) (.int .i64 k); binOp .rem 3 (.int .i64 n) (.int .i64 k) : Sem Value).run Tryd.prog w = .ok (.int .i64 (n % k : Nat)) w := by
 simp [go_sem]
 rw [if_neg (by omega), Int.tmod_eq_emod_of_nonneg (by omega)]
end
theorem ix_kinds (g i : Nat) (hi : i < 20) (w : World) : (Instr.indexAt 28 (.slice (some ⟨g, 0, none⟩) 20 20) (.int .u32 i)).run Tryd.prog w = .ok (.pointer (some ⟨g, i, none⟩)) w := by
 have h1 : (i : Int) < 20 := by omega
 have h2 : (0 : Int) ≤ (i : Int) := by omega
 simp [go_sem, h1, h2]
/-- the kinds of steps by numbers -/
def kd (i : Nat) : Nat := [0, 0, 0, 2, 2, 1, 3, 4, 5, 6, 7, 9, 10, 11, 12, 13, 14, 0, 2, 1].getD i 0
abbrev kdC : Array Value := #[.int .i64 0, .int .i64 0, .int .i64 0, .int .i64 2, .int .i64 2, .int .i64 1, .int .i64 3, .int .i64 4, .int .i64 5, .int .i64 6, .int .i64 7, .int .i64 9, .int .i64 10, .int .i64 11, .int .i64 12, .int .i64 13, .int .i64 14, .int .i64 0, .int .i64 2, .int .i64 1]
theorem kd_at (i : Nat) (h : i < 20) : kdC[i]? = some (.int .i64 (kd i : Nat)) := by
 rcases i with _ | _ | _ | _ | _ | _ | _ | _ | _ | _ | _ | _ | _ | _ | _ | _ | _ | _ | _ | _ | i
 all_goals first | rfl | omega
theorem kd_in_all : ∀ i : Fin 20, kd i.val ∈ [0, 1, 2, 3, 4, 5, 6, 7, 9, 10, 11, 12, 13, 14] := by decide
theorem kd_in {i : Nat} (h : i < 20) : kd i ∈ [0, 1, 2, 3, 4, 5, 6, 7, 9, 10, 11, 12, 13, 14] := kd_in_all ⟨i, h⟩
abbrev DL : List Nat := [3, 51, 32, 34, 44, 4, 67, 40]
section
variable {α : Type} {C : α → Value → Value → Array Value} {kf : α → Option KeyD} {mf : α → Option MapD} {w w' : World} {base e sz g T : Nat} {v : Value} {l : List α} {cs : Array Value}
theorem ER.far0 (h : ER w base e sz C kf mf v l) (hg : w.heap.size ≤ g) : some g ≠ v.ownBlock := by
 obtain ⟨xs, h, _⟩ := h
 rcases h.2 with ⟨rfl, _⟩ | ⟨r, o, cap, cur, rfl, _, h2, _⟩
 · exact fun e => by cases e
 · exact fun e => by
     have h3 := h2.lt
     have h4 : g = r := Option.some.inj e
     omega
theorem ER.gfar (h : ER w base e sz C kf mf v l) (hb : Blk w g T cs) (hk : T ≠ 78) (hm : T ≠ 80) (hne : some g ≠ v.ownBlock) (G : w.grownBy w' (some g)) : ER w' base e sz C kf mf v l := by
 have K := Kt.of_blk hb G
 obtain ⟨xs, hx, he⟩ := h
 refine ⟨xs, ⟨hx.1, ?_⟩, fun i s hs => ?_⟩
 · rcases hx.2 with h | ⟨r, o, cap, cur, rfl, h1, h2, h3⟩
   · exact .inl h
   · exact .inr ⟨r, o, cap, cur, rfl, h1, h2.grown G (fun e => hne e.symm), h3⟩
 · obtain ⟨kv, mv, h4, h5, h6⟩ := he i s hs
   exact ⟨kv, mv, h4, h5.kt K (by simpa using hk.symm), h6.kt K (by simpa using hm.symm)⟩
end
/-- ahead of a step -/
structure PrJ (w00 : World) (N0 wb g16 g17 h : Nat) (d : WinD) (sv wv : Value) (xs : List StepD) (tl : List Bool) (c7 c8 c48 c49 c50 : Value) (kind num : Nat) (s : SegD) (kp mp : Option Nat) (kv mv : Value) (a : Act) (w : World) : Prop where
 F : Fz 358 a
 s7 : a.tmps.getD 7 undef = c7
 s8 : a.tmps.getD 8 undef = c8
 s48 : a.tmps.getD 48 undef = c48
 s49 : a.tmps.getD 49 undef = c49
 s50 : a.tmps.getD 50 undef = c50
 s9 : a.tmps.getD 9 undef = pt wb
 s10 : a.tmps.getD 10 undef = sv
 s11 : a.tmps.getD 11 undef = wv
 s14 : a.tmps.getD 14 undef = .int .i64 kind
 s15 : a.tmps.getD 15 undef = .int .u32 h
 s16 : a.tmps.getD 16 undef = pt g16
 s17 : a.tmps.getD 17 undef = pt g17
 s18 : a.tmps.getD 18 undef = .bool true
 s72 : a.tmps.getD 72 undef = .int .i64 kind
 K : Kt N0 DL w00 w
 H : WinS w N0 wb d
 sr : STR w N0 sv xs
 wr : GR w N0 4 Value.bool wv tl
 b16 : Blk w g16 32 (ssegC s kp mp)
 b17 : Blk w g17 44 (stepC ⟨kind, s, num⟩ kv mv)
 ks : KeySl w kv s.key
 ms : MapSl w mv s.map
 kq : SKey w kp s.key
 mq : SMap w mp s.map
 ok : SegOk s
 num_ : num < 16
 h_ : h < 4294967296
 g16_ : N0 ≤ g16
 g17_ : N0 ≤ g17
 hw : N0 ≤ w00.heap.size
 far : some g17 ≠ sv.ownBlock
/-- behind a step -/
structure SwJ (w00 : World) (N0 wb g17 : Nat) (d : WinD) (sv wv : Value) (xs : List StepD) (tl : List Bool) (c7 c8 c48 c49 c50 : Value) (x : StepD) (t : Bool) (a : Act) (w : World) : Prop where
 F : Fz 358 a
 s7 : a.tmps.getD 7 undef = c7
 s8 : a.tmps.getD 8 undef = c8
 s48 : a.tmps.getD 48 undef = c48
 s49 : a.tmps.getD 49 undef = c49
 s50 : a.tmps.getD 50 undef = c50
 s9 : a.tmps.getD 9 undef = pt wb
 s10 : a.tmps.getD 10 undef = sv
 s11 : a.tmps.getD 11 undef = wv
 s17 : a.tmps.getD 17 undef = pt g17
 s18 : a.tmps.getD 18 undef = .bool t
 K : Kt N0 DL w00 w
 H : WinS w N0 wb (d.exec x)
 sr : STR w N0 sv xs
 wr : GR w N0 4 Value.bool wv tl
 b17 : ∃ kv mv, Blk w g17 44 (stepC x kv mv) ∧ KeySl w kv x.seg.key ∧ MapSl w mv x.seg.map
 ok : x.Ok
 told : t = d.told x
/-- the keys of the steps -/
theorem keyOf_12 (n : Int) (h0 : 0 ≤ n) (h1 : n ≤ 4294967295) (hm : n % 4 = 1 ∨ n % 4 = 2) (w : World) :
   Calls Tryd.prog 10 #[.int .u32 n] w fun e w' => ∃ p k, e = .returned (pt p) ∧ Blk w' p 56 (keyC k) ∧ k.Ok ∧ KV k ∧ w.grownBy w' none := by
 have HU := Lib.hid fun (m : Int) h0 h1 w => uriOf_any m h0 h1 w
 have HD := Lib.hid fun (m : Int) w h0 h1 => decimal_any m w h0 h1
 rcases hm with hm | hm
 · go_enter Tryd.func10, Tryd.ntmps10
   go_wp2_with fail
   refine (HU.out _ (by omega) (by omega) _).mono ?_
   rintro e w' ⟨⟨s, rfl, hs⟩, rfl⟩
   go_wp2_with fail
   go_ret
   exact ⟨w.heap.size, ⟨⟨#[65, 69, 83, 45, 49, 50, 56]⟩, s, ⟨#[]⟩, ⟨#[]⟩, ⟨#[]⟩⟩, rfl, Blk.new rfl, ⟨Nat.le_of_ble_eq_true rfl, Nat.le_trans hs (by decide), Nat.le_of_ble_eq_true rfl, Nat.le_of_ble_eq_true rfl, Nat.le_of_ble_eq_true rfl⟩, ⟨fun _ => rfl, fun _ => rfl⟩, grown_alloc _ _⟩
 · have hd9 : ∀ x : Int, 0 ≤ x → x < 10 ^ 10 → (bs (Lib.decDigits x.toNat)).size ≤ 10 := fun x hx hy => dd_size (by omega) (by omega)
   have HD9 := Lib.hid hd9
   clear hd9
   go_enter Tryd.func10, Tryd.ntmps10
   go_wp2_with fail
   refine (HU.out _ (by omega) (by omega) _).mono ?_
   rintro e w' ⟨⟨s, rfl, hs⟩, rfl⟩
   go_wp2_with fail
   refine (HD.out _ _ (by omega) (by omega)).mono ?_
   rintro e w' ⟨rfl, rfl⟩
   have z1 := HD9.out (n / 32) (by omega) (by omega)
   generalize bs (Lib.decDigits (n / 32).toNat) = U1 at *
   go_wp2_with fail
   refine (HD.out _ _ (by omega) (by omega)).mono ?_
   rintro e w' ⟨rfl, rfl⟩
   have z2 := HD9.out (n / 128 % 9) (by omega) (by omega)
   generalize bs (Lib.decDigits (n / 128 % 9).toNat) = U2 at *
   go_wp2_with fail
   refine (HD.out _ _ (by omega) (by omega)).mono ?_
   rintro e w' ⟨rfl, rfl⟩
   have z3 := HD9.out (n / 512 % 9) (by omega) (by omega)
   generalize bs (Lib.decDigits (n / 512 % 9).toNat) = U3 at *
   go_wp2_with fail
   go_ret
   refine ⟨w.heap.size, ⟨⟨#[83, 65, 77, 80, 76, 69, 45, 65, 69, 83]⟩, s, ⟨#[48, 120]⟩ ++ U1, ⟨#[99, 111, 109, 46, 102]⟩ ++ U2, ⟨#[49, 47]⟩ ++ U3⟩, rfl,
     Blk.new rfl, ⟨Nat.le_of_ble_eq_true rfl, Nat.le_trans hs (by decide), app_sz _ _ 2 10 _ (by decide) z1 (by decide), app_sz _ _ 5 10 _ (by decide) z2 (by decide), app_sz _ _ 2 10 _ (by decide) z3 (by decide)⟩, ⟨fun h => ?_, fun h => ?_⟩, grown_alloc _ _⟩
   · simp only [ByteArray.size_append] at h
     have h5 : (⟨#[99, 111, 109, 46, 102]⟩ : ByteArray).size = 5 := rfl
     omega
   · simp only [ByteArray.size_append] at h
     have h5 : (⟨#[49, 47]⟩ : ByteArray).size = 2 := rfl
     omega
end Go.Proofs.YtdpebhlkgmopkaaDoor
