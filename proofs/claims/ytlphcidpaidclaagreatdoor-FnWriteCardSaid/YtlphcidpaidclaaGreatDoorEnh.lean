/-
  The head of Encode: what stands ahead of the segments.
-/
import Derived.Test.YtlphcidpaidclaaGreatDoorFff
import Derived.Test.YtlphcidpaidclaaGreatDoorFld
namespace Go.Proofs.YtlphcidpaidclaaGreatDoor
open Go.RowKit
section
variable {B b q kb mb num n : Nat} {kp mp : Option Nat} {k : KeyD} {m : MapD} {s : SegD} {d : PlD} {w w0 : World} {a0 : Act} {l : List UInt8} {Q : Exit → Act → World → Prop}
theorem sv_any {R : Nat → Option Value} (v : Nat) (hv : v < 100) (w : World) (h : Enc B b R w0 l w) : Calls Tryz.prog 47 #[.int .u8 v] w fun e w' => e = .returned (.string (bs (Lib.decDigits v))) ∧ Enc B b R w0 l w' :=
  (strver_small v hv w).mono fun _ _ h' => ⟨h'.1, by rw [h'.2]; exact h⟩
def tx_54 (d : PlD) (l : List UInt8) : List UInt8 := if d.pre = true then (l ++ [44, 80, 82, 69, 67, 73, 83, 69, 61, 89, 69, 83]) else l
set_option maxRecDepth 100000 in
theorem if_54 (hF0 : Fr b a0) (hn : n + 12 ≤ 1000000) (hE0 : EL B b (plR d) w0 n l w) (hK : ∀ a' w', Up 322 a0 a' → EL B b (plR d) w0 (n + 12) (tx_54 d l) w' → Q .normal a' w') :
    (cat [1, 1, 1, 1, 1, 1, 1, 1, 1, 1, 1, 1, 1, 1, 0, 1, 0, 1, 1, 0] encB).wp Tryz.prog Q a0 w := by
  change Code.wp _ (Code.seq (Code.region _ _ _) (Code.cond _ _ _)) _ _ _
  refine t_val (hf := (fun _ _ => by kernel_rfl)) (hL := (fun _ => by kernel_rfl)) (hr := hF0.p) (hc := (hE0.cell 9 (by decide))) (hv := rfl) (hsz := by rw [hF0.size]; decide) (q := d.pre) (hT := fun hqt a1 u1 => ?_) (hN := fun hqt a1 u1 => ?_)
  · have hF1 := hF0.up u1 (by decide)
    have U1 := u1
    have hE1 := hE0
    clear hE0 hF0 u1
    refine s_wsc' (x := ⟨#[44, 80, 82, 69, 67, 73, 83, 69, 61, 89, 69, 83]⟩) (h0 := hF1.p) (_ht := by decide) (hsz := by rw [hF1.size]; decide) (n := n) (hE := hE1) (hn := by omega) (k' := 12) (hx' := by decide) (hK := fun a2 w2 u2 hE2 => ?_)
    have hF2 := hF1.up u2 (by decide)
    have U2 := U1.trans u2 (by decide)
    clear hE1 hF1 u2
    exact hK _ _ (U2.down (by decide)) (hE2.to (by unfold tx_54; exact (if_pos hqt).symm) (by omega))
  · exact wp_skip (hK _ _ u1 (hE0.to (by unfold tx_54; exact (if_neg (by rw [hqt]; decide)).symm) (by omega)))
def tx_57 (d : PlD) (l : List UInt8) : List UInt8 := if ((d.dsq : Int) != 0) = true then (((l ++ [35, 69, 88, 84, 45, 88, 45, 68, 73, 83, 67, 79, 78, 84, 73, 78, 85, 73, 84, 89, 45, 83, 69, 81, 85, 69, 78, 67, 69, 58]) ++ Lib.decDigits d.dsq) ++ [10]) else l
set_option maxRecDepth 100000 in
theorem if_57 (hF0 : Fr b a0) (hdO : d.Ok) (htab : TabP w0) (hgt : 7 < B) (hn : n + 51 ≤ 1000000) (hE0 : EL B b (plR d) w0 n l w) (hK : ∀ a' w', Up 334 a0 a' → EL B b (plR d) w0 (n + 51) (tx_57 d l) w' → Q .normal a' w') :
    (cat [1, 1, 1, 1, 1, 1, 1, 1, 1, 1, 1, 1, 1, 1, 1, 0] encB).wp Tryz.prog Q a0 w := by
  change Code.wp _ (Code.seq (Code.region _ _ _) (Code.cond _ _ _)) _ _ _
  refine t_bin1 (hf := (fun _ _ => by kernel_rfl)) (hL := (fun _ => by kernel_rfl)) (hr := hF0.p) (hc := (hE0.cell 7 (by decide))) (hb := (fun w => bo_ne0 _ w)) (hsz := by rw [hF0.size]; decide) (q := ((d.dsq : Int) != 0)) (hT := fun hqt a1 u1 => ?_) (hN := fun hqt a1 u1 => ?_)
  · have hF1 := hF0.up u1 (by decide)
    have U1 := u1
    have hE1 := hE0
    clear hE0 hF0 u1
    refine wp_seq (s_wsc' (x := ⟨#[35, 69, 88, 84, 45, 88, 45, 68, 73, 83, 67, 79, 78, 84, 73, 78, 85, 73, 84, 89, 45, 83, 69, 81, 85, 69, 78, 67, 69, 58]⟩) (h0 := hF1.p) (_ht := by decide) (hsz := by rw [hF1.size]; decide) (n := n) (hE := hE1) (hn := by omega) (k' := 30) (hx' := by decide) (hK := fun a2 w2 u2 hE2 => (?_ : Code.wp _ _ _ _ _)))
    have hF2 := hF1.up u2 (by decide)
    have U2 := U1.trans u2 (by decide)
    clear hE1 hF1 u2
    refine wp_seq (s_wsf1_1' (x := bs (Lib.decDigits d.dsq)) (hg := fun _ _ => by kernel_rfl) (hf := (fun _ _ => by kernel_rfl)) (hL := (fun _ => by kernel_rfl)) (hr := hF2.p) (hc := (fun l w hEE => (hEE.cell 7 (by decide)))) (hrt := by decide) (hB := by kernel_rfl) (hC := fu_any _ hdO.dsq htab hgt) (h0 := hF2.p) (_ht := by decide) (hsz := by rw [hF2.size]; decide) (n := n + 30) (hE := hE2) (hn := by omega) (k' := 20) (hx' := dd_size (Nat.lt_of_lt_of_le hdO.dsq (by decide)) (by decide)) (hK := fun a3 w3 u3 hE3 => (?_ : Code.wp _ _ _ _ _)))
    have hF3 := hF2.up u3 (by decide)
    have U3 := U2.trans u3 (by decide)
    clear hE2 hF2 u3
    refine s_wrc' (x := 10) (hx := by decide) (h0 := hF3.p) (_ht := by decide) (hsz := by rw [hF3.size]; decide) (n := n + 30 + 20) (hE := hE3) (hn := by omega) (k' := 1) (hx' := by decide) (hK := fun a4 w4 u4 hE4 => ?_)
    have hF4 := hF3.up u4 (by decide)
    have U4 := U3.trans u4 (by decide)
    clear hE3 hF3 u4
    exact hK _ _ (U4.down (by decide)) (hE4.to (by unfold tx_57; exact (if_pos hqt).symm) (by omega))
  · exact wp_skip (hK _ _ u1 (hE0.to (by unfold tx_57; exact (if_neg (by rw [hqt]; decide)).symm) (by omega)))
def tx_51 (d : PlD) (l : List UInt8) : List UInt8 := if 0 < d.st then ((tx_54 d ((l ++ [35, 69, 88, 84, 45, 88, 45, 83, 84, 65, 82, 84, 58, 84, 73, 77, 69, 45, 79, 70, 70, 83, 69, 84, 61]) ++ shortT d.st)) ++ [10]) else l
theorem bo_st {x y : Operand} (n : Nat) (hn : n < 301) (w : World) : (do eqGuard .gtr 24 x y (.float .f64 (fb n)) (.float .f64 0); binOp .gtr 24 (.float .f64 (fb n)) (.float .f64 0) : Sem Value).run Tryz.prog w = .ok (.bool (decide (0 < n))) w := by
  have h : ∀ n : Fin 301, (FloatKind.f64.format.order (fb n.val) 0 == some .gt) = decide (0 < n.val) := by decide +kernel
  rw [bo_gtrf, h ⟨n, hn⟩]
set_option maxRecDepth 100000 in
theorem if_51 (hF0 : Fr b a0) (hdO : d.Ok) (htab : TabP w0) (hgt : 7 < B) (hn : n + 58 ≤ 1000000) (hE0 : EL B b (plR d) w0 n l w) (hK : ∀ a' w', Up 304 a0 a' → EL B b (plR d) w0 (n + 58) (tx_51 d l) w' → Q .normal a' w') :
    (cat [1, 1, 1, 1, 1, 1, 1, 1, 1, 1, 1, 1, 1, 1, 0] encB).wp Tryz.prog Q a0 w := by
  change Code.wp _ (Code.seq (Code.region _ _ _) (Code.cond _ _ _)) _ _ _
  refine t_bin1 (hf := (fun _ _ => by kernel_rfl)) (hL := (fun _ => by kernel_rfl)) (hr := hF0.p) (hc := hE0.cell 8 (by decide)) (hb := fun w => bo_st d.st hdO.st w) (hsz := by rw [hF0.size]; decide) (hT := fun hqt a1 u1 => ?_) (hN := fun hqt a1 u1 => ?_)
  · have hst : 0 < d.st := by simpa using hqt
    have hF1 := hF0.up u1 (by decide)
    have U1 := u1
    have hE1 := hE0
    clear hE0 hF0 u1
    refine wp_seq (s_wsc' (x := ⟨#[35, 69, 88, 84, 45, 88, 45, 83, 84, 65, 82, 84, 58, 84, 73, 77, 69, 45, 79, 70, 70, 83, 69, 84, 61]⟩) (h0 := hF1.p) (_ht := by decide) (hsz := by rw [hF1.size]; decide) (n := n) (hE := hE1) (hn := by omega) (k' := 25) (hx' := by decide) (hK := fun a2 w2 u2 hE2 => (?_ : Code.wp _ _ _ _ _)))
    have hF2 := hF1.up u2 (by decide)
    have U2 := U1.trans u2 (by decide)
    clear hE1 hF1 u2
    refine wp_seq (s_wsf1_3' (x := bs (shortT d.st)) (hg := fun _ _ => by kernel_rfl) (hf := (fun _ _ => by kernel_rfl)) (hL := (fun _ => by kernel_rfl)) (hr := hF2.p) (hc := (fun l w hEE => (hEE.cell 8 (by decide)))) (hrt := by decide) (hB := by kernel_rfl) (hC := (hdO.ff.resolve_left (by omega)) _ hst hdO.st htab hgt) (h0 := hF2.p) (_ht := by decide) (hsz := by rw [hF2.size]; decide) (n := n + 25) (hE := hE2) (hn := by omega) (k' := 20) (hx' := short_len ⟨d.st, hdO.st⟩) (hK := fun a3 w3 u3 hE3 => (?_ : Code.wp _ _ _ _ _)))
    have hF3 := hF2.up u3 (by decide)
    have U3 := U2.trans u3 (by decide)
    clear hE2 hF2 u3
    refine wp_seq (if_54  (hF0 := hF3) (n := n + 25 + 20) (hE0 := hE3) (hn := by omega) (hK := fun a4 w4 u4 hE4 => (?_ : Code.wp _ _ _ _ _)))
    have hF4 := hF3.up u4 (by decide)
    have U4 := U3.trans u4 (by decide)
    clear hE3 hF3 u4
    refine s_wrc' (x := 10) (hx := by decide) (h0 := hF4.p) (_ht := by decide) (hsz := by rw [hF4.size]; decide) (n := n + 25 + 20 + 12) (hE := hE4) (hn := by omega) (k' := 1) (hx' := by decide) (hK := fun a5 w5 u5 hE5 => ?_)
    have hF5 := hF4.up u5 (by decide)
    have U5 := U4.trans u5 (by decide)
    clear hE4 hF4 u5
    exact hK _ _ (U5.down (by decide)) (hE5.to (by unfold tx_51; exact (if_pos hst).symm) (by omega))
  · exact wp_skip (hK _ _ u1 (hE0.to (by unfold tx_51; exact (if_neg (by simpa using hqt)).symm) (by omega)))
set_option maxRecDepth 100000 in
theorem if_6 {key : Option KeyD} (hF0 : Fr b a0) (hki : KeyIn w0 b d.kp key) (hn : n + 264 ≤ 1000000) (hE0 : EL B b (plR d) w0 n l w) (hK : ∀ a' w', Up 35 a0 a' → EL B b (plR d) w0 (n + 264) (optT tb_6 key l) w' → Q .normal a' w') :
    (cat [1, 1, 1, 1, 1, 0] encB).wp Tryz.prog Q a0 w := by
  change Code.wp _ (Code.seq (Code.region _ _ _) (Code.cond _ _ _)) _ _ _
  refine t_bin1 (hf := (fun _ _ => by kernel_rfl)) (hL := (fun _ => by kernel_rfl)) (hr := hF0.p) (hc := hE0.cell 21 (by decide)) (hb := fun w => bo_key _ w) (hsz := by rw [hF0.size]; decide) (hT := fun hqt a1 u1 => ?_) (hN := fun hqt a1 u1 => ?_)
  · generalize hp : d.kp = o at *
    cases hki with
    | nil => cases hqt
    | @mk p k h hb ok =>
      have e : plR d = plR { d with kp := some p } := by cases d; simp only at hp; subst hp; rfl
      rw [e] at hE0 hK
      exact bd_6 (hF0 := hF0.up u1 (by decide)) (hk := h) (hkb := hb) (hkO := ok) (n := n) (hn := by omega) (hE0 := hE0) (hK := fun a' w' u h => hK a' w' (u1.trans u (by decide)) h)
  · generalize hp : d.kp = o at *
    cases hki with
    | nil => exact wp_skip (hK _ _ u1 (hE0.mono (by omega)))
    | mk h hb ok => cases hqt
set_option maxRecDepth 100000 in
theorem if_26 {map : Option MapD} (hF0 : Fr b a0) (hmi : MapIn w0 b d.mp map) (htab : TabP w0) (hgt : 7 < B) (hn : n + 108 ≤ 1000000) (hE0 : EL B b (plR d) w0 n l w) (hK : ∀ a' w', Up 167 a0 a' → EL B b (plR d) w0 (n + 108) (optT tb_26 map l) w' → Q .normal a' w') :
    (cat [1, 1, 1, 1, 1, 1, 0] encB).wp Tryz.prog Q a0 w := by
  change Code.wp _ (Code.seq (Code.region _ _ _) (Code.cond _ _ _)) _ _ _
  refine t_bin1 (hf := (fun _ _ => by kernel_rfl)) (hL := (fun _ => by kernel_rfl)) (hr := hF0.p) (hc := hE0.cell 22 (by decide)) (hb := fun w => bo_map _ w) (hsz := by rw [hF0.size]; decide) (hT := fun hqt a1 u1 => ?_) (hN := fun hqt a1 u1 => ?_)
  · generalize hp : d.mp = o at *
    cases hmi with
    | nil => cases hqt
    | @mk p k h hb ok =>
      have e : plR d = plR { d with mp := some p } := by cases d; simp only at hp; subst hp; rfl
      rw [e] at hE0 hK
      exact bd_26 (hF0 := hF0.up u1 (by decide)) (hm := h) (hmb := hb) (hmO := ok) (htab := htab) (hgt := hgt) (n := n) (hn := by omega) (hE0 := hE0) (hK := fun a' w' u h => hK a' w' (u1.trans u (by decide)) h)
  · generalize hp : d.mp = o at *
    cases hmi with
    | nil => exact wp_skip (hK _ _ u1 (hE0.mono (by omega)))
    | mk h hb ok => cases hqt
def tx_37 (d : PlD) (l : List UInt8) : List UInt8 := if d.ty = 2 then l ++ [35, 69, 88, 84, 45, 88, 45, 80, 76, 65, 89, 76, 73, 83, 84, 45, 84, 89, 80, 69, 58] ++ [86, 79, 68, 10] else l
set_option maxRecDepth 100000 in
theorem if_37 (hF0 : Fr b a0) (hdO : d.Ok) (hn : n + 25 ≤ 1000000) (hE0 : EL B b (plR d) w0 n l w) (hK : ∀ a' w', Up 239 a0 a' → EL B b (plR d) w0 (n + 25) (tx_37 d l) w' → Q .normal a' w') :
    (cat [1, 1, 1, 1, 1, 1, 1, 0] encB).wp Tryz.prog Q a0 w := by
  change Code.wp _ (Code.seq (Code.region _ _ _) (Code.cond _ _ _)) _ _ _
  refine t_bin1 (hf := (fun _ _ => by kernel_rfl)) (hL := (fun _ => by kernel_rfl)) (hr := hF0.p) (hc := hE0.cell 6 (by decide)) (hb := fun w => bo_tygtr _ w) (hsz := by rw [hF0.size]; decide) (hT := fun hqt a1 u1 => ?_) (hN := fun hqt a1 u1 => ?_)
  · have hty : d.ty = 2 := by rcases hdO.ty with h | h; (simp [h] at hqt); exact h
    have hF1 := hF0.up u1 (by decide)
    refine wp_seq (s_wsc' (x := ⟨#[35, 69, 88, 84, 45, 88, 45, 80, 76, 65, 89, 76, 73, 83, 84, 45, 84, 89, 80, 69, 58]⟩) (h0 := hF1.p) (_ht := by decide) (hsz := by rw [hF1.size]; decide) (n := n) (hE := hE0) (hn := by omega) (k' := 21) (hx' := by decide) (hK := fun a2 w2 u2 hE2 => (?_ : Code.wp _ _ _ _ _)))
    have hF2 := hF1.up u2 (by decide)
    refine wp_seq (rg_plain 4 (st_path1 (hf := (fun _ _ => by kernel_rfl)) (hL := (fun _ => by kernel_rfl)) (hr := hF2.p) (hc := hE2.cell 6 (by decide)) (hsz := by rw [hF2.size]; decide) fun a3 u3 h3 => ?_))
    have hF3 := hF2.up u3 (by decide)
    change Code.wp _ _ _ _ _
    refine wp_block (wp_seq (rg_plain 2 ?_))
    refine st_o (ex_bin (vx := .int .u64 d.ty) h3 rfl (bo_tyeq _ _ _)) (by rw [hF3.size]; decide) fun a4 u4 h4 => ?_
    have hF4 := hF3.up u4 (by decide)
    refine st_v (ex_as (v := .bool ((d.ty : Int) == 1)) h4) ?_
    have h5 : (a4.put (some 252) (.bool ((d.ty : Int) == 1))).eval (.tmp 252) = .bool ((d.ty : Int) == 1) := put_get _ (by rw [hF4.size]; decide)
    have u5 := Up.put a4 (.bool ((d.ty : Int) == 1)) (Nat.le_refl 252)
    have h6 : (a4.put (some 252) (.bool ((d.ty : Int) == 1))).tmps.getD 251 undef = .int .u64 d.ty := (u5.low 251 (by decide)).trans ((u4.low 251 (by decide)).trans h3)
    have hF5 := hF4.up u5 (by decide)
    generalize a4.put (some 252) (.bool ((d.ty : Int) == 1)) = a5 at *
    refine wp_cond_false (h5.trans (by rw [hty]; rfl)) (wp_seq (rg_plain 2 ?_))
    refine st_o (ex_bin (vx := .int .u64 d.ty) h6 rfl (bo_tyeq _ _ _)) (by rw [hF5.size]; decide) fun a6 u6 h7 => ?_
    have hF6 := hF5.up u6 (by decide)
    refine st_v (ex_as (v := .bool ((d.ty : Int) == 2)) h7) ?_
    have h8 : (a6.put (some 262) (.bool ((d.ty : Int) == 2))).eval (.tmp 262) = .bool ((d.ty : Int) == 2) := put_get _ (by rw [hF6.size]; decide)
    have u7 := Up.put a6 (.bool ((d.ty : Int) == 2)) (Nat.le_refl 262)
    have hF7 := hF6.up u7 (by decide)
    generalize a6.put (some 262) (.bool ((d.ty : Int) == 2)) = a7 at *
    refine wp_cond_true (h8.trans (by rw [hty]; rfl)) ?_
    refine s_wsc' (x := ⟨#[86, 79, 68, 10]⟩) (h0 := hF7.p) (_ht := by decide) (hsz := by rw [hF7.size]; decide) (n := n + 21) (hE := hE2) (hn := by omega) (k' := 4) (hx' := by decide) (hK := fun a8 w8 u8 hE8 => ?_)
    have U := (((((u1.trans u2 (by decide)).trans u3 (by decide)).trans u4 (by decide)).trans u5 (by decide)).trans u6 (by decide)).trans u7 (by decide)
    exact hK _ _ (U.trans u8 (by decide)) (hE8.to (by unfold tx_37; exact (if_pos hty).symm) (by omega))
  · have hty : ¬ d.ty = 2 := by intro h; simp [h] at hqt
    exact wp_skip (hK _ _ u1 (hE0.to (by unfold tx_37; exact (if_neg hty).symm) (by omega)))
theorem ceil_whole (T : Nat) (hT : T < 501) (w : World) : Calls Tryz.prog 31 #[.float .f64 (fn T)] w fun e w' => e = .returned (.float .f64 (fn T)) ∧ w' = w := by
  have h := ceil_any (fn T) (flo_nan2 hT) w
  rw [flo_ceil2 hT] at h
  exact h.mono fun _ _ ⟨a, b⟩ => ⟨a, b.symm⟩
section
set_option maxRecDepth 100000
variable {ty1 ty2 ty3 ty4 ty5 ty6 ty7 ty8 ty9 ty10 ty11 : TypeId} {p1 p2 p3 p4 p5 p6 p7 p8 p9 p10 p11 : String} {af1 af2 af3 af4 af5 af6 af7 af8 af9 af10 af11 : Array Edge} {ats ats' ats'' : Array TypeId} {id t : Nat}
/-- p.buf.WriteString(strconv.FormatInt(int64(math.Ceil(p.TargetDuration)), 10)) -/
theorem s_tgt {T : Nat} (hT : T < 501) (hR : plR d 0 = some (.float .f64 (fn T))) (htab : TabP w0) (hgt : 7 < B) (h0 : a0.tmps.getD 0 undef = pt b) (_ht : 0 < t) (hsz : t + 10 < a0.tmps.size) (hE : EL B b (plR d) w0 n l w) (hn : n + 3 ≤ 1000000) (hK : ∀ a' w', Up t a0 a' → EL B b (plR d) w0 (n + 3) (l ++ Lib.decDigits T) w' → Q .normal a' w')
    (hB : mixB [⟨some t, .move (.tmp 0), ty1, p1, af1, none⟩, ⟨some (t + 1), .nilCheck (.tmp t), ty2, p2, af2, none⟩, ⟨some (t + 2), .fieldAddr 70 (.tmp (t + 1)) 17, ty3, p3, af3, none⟩, ⟨some (t + 3), .move (.tmp 0), ty4, p4, af4, none⟩, ⟨some (t + 4), .nilCheck (.tmp (t + 3)), ty5, p5, af5, none⟩, ⟨some (t + 5), .fieldAddr 70 (.tmp (t + 4)) 0, ty6, p6, af6, none⟩, ⟨some (t + 6), .load 24 (.tmp (t + 5)), ty7, p7, af7, none⟩, ⟨some (t + 7), .call ⟨.value (.func 31), #[.tmp (t + 6)], ats⟩, ty8, p8, af8, none⟩, ⟨some (t + 8), .convert 24 2 (.tmp (t + 7)), ty9, p9, af9, none⟩, ⟨some (t + 9), .call ⟨.value (.func 49), #[.tmp (t + 8), .const (.int .i64 10)], ats'⟩, ty10, p10, af10, none⟩, ⟨some (t + 10), .call ⟨.value (.func 46), #[.tmp (t + 2), .tmp (t + 9)], ats''⟩, ty11, p11, af11, none⟩].toArray 7 = true) :
    (Code.region id #[⟨some t, .move (.tmp 0), ty1, p1, af1, none⟩, ⟨some (t + 1), .nilCheck (.tmp t), ty2, p2, af2, none⟩, ⟨some (t + 2), .fieldAddr 70 (.tmp (t + 1)) 17, ty3, p3, af3, none⟩, ⟨some (t + 3), .move (.tmp 0), ty4, p4, af4, none⟩, ⟨some (t + 4), .nilCheck (.tmp (t + 3)), ty5, p5, af5, none⟩, ⟨some (t + 5), .fieldAddr 70 (.tmp (t + 4)) 0, ty6, p6, af6, none⟩, ⟨some (t + 6), .load 24 (.tmp (t + 5)), ty7, p7, af7, none⟩, ⟨some (t + 7), .call ⟨.value (.func 31), #[.tmp (t + 6)], ats⟩, ty8, p8, af8, none⟩, ⟨some (t + 8), .convert 24 2 (.tmp (t + 7)), ty9, p9, af9, none⟩, ⟨some (t + 9), .call ⟨.value (.func 49), #[.tmp (t + 8), .const (.int .i64 10)], ats'⟩, ty10, p10, af10, none⟩, ⟨some (t + 10), .call ⟨.value (.func 46), #[.tmp (t + 2), .tmp (t + 9)], ats''⟩, ty11, p11, af11, none⟩] true).wp Tryz.prog Q a0 w := by
  have hc : ∀ l w, Enc B b (plR d) w0 l w → w.cell? ⟨b, 0, none⟩ = some (.float .f64 (fn T)) := fun l w h => (h.cell 0 (by decide)).trans hR
  have hl : (Lib.decDigits T).length ≤ 3 := decDigits_len 3 T (by omega) (by omega)
  refine rg_mix (S := fun w => w.cell? ⟨b, 0, none⟩ = some (.float .f64 (fn T))) 7 (by simp) hmix hB (hc _ _ hE.enc.drew) ?_
  refine mh_addr faBuf h0 (by omega) fun a1 u1 h1 => ?_
  refine mh_path1 (fun _ _ => by kernel_rfl) (fun _ => by kernel_rfl) ((u1.low 0 _ht).trans h0) (fun _ h => h) (by rw [u1.size]; omega) fun a2 u2 h2 => ?_
  have h1' := (u2.low (t + 2) (by omega)).trans h1
  refine mt_c (ex_call (fun _ _ => by kernel_rfl)) (R := fun v w' => v = .float .f64 (fn T) ∧ Enc B b (plR d) w0 l w') ?_ ?_
  · have e : (#[Operand.tmp (t + 6)] : Array Operand).map a2.eval = #[.float .f64 (fn T)] := by
      have e2 : a2.eval (.tmp (t + 6)) = .float .f64 (fn T) := h2
      simp only [List.map_toArray, List.map_cons, List.map_nil, e2]
    rw [e]
    exact (ceil_whole T hT _).mono fun _ w' h => ⟨_, h.1, rfl, by rw [h.2]; exact hE.enc.drew⟩
  · rintro v' w1 ⟨rfl, hE1⟩
    refine ⟨hc _ _ hE1, ?_⟩
    have hcv : (convert 24 2 (.float .f64 (fn T))).run Tryz.prog w1 = .ok (.int .i64 T) w1 := run_convert_float_int (P := Tryz.prog) w1 24 2 .f64 .i64 (fn T) T (by rw [Tryz.underlying24]; rfl) Tryz.underlying2 (flo_int hT)
    have e3 : (a2.put (some (t + 7)) (.float .f64 (fn T))).eval (.tmp (t + 7)) = .float .f64 (fn T) := put_get _ (by rw [u2.size, u1.size]; omega)
    refine mt_v (ex_conv e3 hcv) ⟨hc _ _ hE1, ?_⟩
    have e4 : ((a2.put (some (t + 7)) (.float .f64 (fn T))).put (some (t + 8)) (.int .i64 T)).eval (.tmp (t + 8)) = .int .i64 T := put_get _ (by rw [put_size, u2.size, u1.size]; omega)
    refine mt_c (ex_call (fun _ _ => by kernel_rfl)) (R := fun v w' => v = .string (bs (Lib.decDigits T)) ∧ Enc B b (plR d) w0 l w') ?_ ?_
    · have e : (#[Operand.tmp (t + 8), Operand.const (.int .i64 10)] : Array Operand).map ((a2.put (some (t + 7)) (.float .f64 (fn T))).put (some (t + 8)) (.int .i64 T)).eval = #[.int .i64 T, .int .i64 10] := by
        simp only [List.map_toArray, List.map_cons, List.map_nil, e4, ev_const]
      rw [e]
      exact (fi_any T (by omega) htab hgt _ hE1).mono fun _ _ h => ⟨_, h.1, rfl, h.2⟩
    · rintro v' w2 ⟨rfl, hE2⟩
      refine ⟨hc _ _ hE2, ?_⟩
      refine mt_c (ex_call cfWS) (R := fun _ w' => Enc B b (plR d) w0 (l ++ Lib.decDigits T) w') ?_ ?_
      · have u3 := (((u2.trans (Up.put _ (.float .f64 (fn T)) (Nat.le_refl (t + 7))) (by omega)).trans (Up.put _ (.int .i64 T) (Nat.le_refl (t + 8))) (by omega)).trans (Up.put _ (.string (bs (Lib.decDigits T))) (Nat.le_refl (t + 9))) (by omega))
        have e1 : (((a2.put (some (t + 7)) (.float .f64 (fn T))).put (some (t + 8)) (.int .i64 T)).put (some (t + 9)) (.string (bs (Lib.decDigits T)))).eval (.tmp (t + 2)) = .pointer (some ⟨b, 17, none⟩) := (u3.low (t + 2) (by omega)).trans h1
        have e2 : (((a2.put (some (t + 7)) (.float .f64 (fn T))).put (some (t + 8)) (.int .i64 T)).put (some (t + 9)) (.string (bs (Lib.decDigits T)))).eval (.tmp (t + 9)) = .string (bs (Lib.decDigits T)) := put_get _ (by rw [put_size, put_size, u2.size, u1.size]; omega)
        have e : (#[Operand.tmp (t + 2), Operand.tmp (t + 9)] : Array Operand).map (((a2.put (some (t + 7)) (.float .f64 (fn T))).put (some (t + 8)) (.int .i64 T)).put (some (t + 9)) (.string (bs (Lib.decDigits T)))).eval = #[.pointer (some ⟨b, 17, none⟩), .string (bs (Lib.decDigits T))] := by
          simp only [List.map_toArray, List.map_cons, List.map_nil, e1, e2]
        rw [e]
        exact (enc_ws (bs (Lib.decDigits T)) hE2 (by have := hE.len; have h3 : (bs (Lib.decDigits T)).size = (Lib.decDigits T).length := rfl; omega)).mono fun _ _ h => ⟨_, h.1, h.2⟩
      · intro v w' h
        refine ⟨hc _ _ h, hK _ _ ?_ ⟨h, by rw [List.length_append]; have := hE.len; omega⟩⟩
        exact (((((u1.trans u2 (by omega)).trans (Up.put _ _ (Nat.le_refl (t + 7))) (by omega)).trans (Up.put _ _ (Nat.le_refl (t + 8))) (by omega)).trans (Up.put _ _ (Nat.le_refl (t + 9))) (by omega)).trans (Up.put _ _ (Nat.le_refl (t + 10))) (by omega))
end
def headT (d : PlD) (key : Option KeyD) (map : Option MapD) : List UInt8 := (tx_61 d (tx_57 d (tx_51 d (((((((tx_37 d (optT tb_26 map (optT tb_6 key ((([] ++ [35, 69, 88, 84, 77, 51, 85, 10, 35, 69, 88, 84, 45, 88, 45, 86, 69, 82, 83, 73, 79, 78, 58]) ++ Lib.decDigits d.ver) ++ [10])))) ++ [35, 69, 88, 84, 45, 88, 45, 77, 69, 68, 73, 65, 45, 83, 69, 81, 85, 69, 78, 67, 69, 58]) ++ Lib.decDigits d.seq) ++ [10]) ++ [35, 69, 88, 84, 45, 88, 45, 84, 65, 82, 71, 69, 84, 68, 85, 82, 65, 84, 73, 79, 78, 58]) ++ Lib.decDigits d.td) ++ [10]))))
set_option maxRecDepth 100000 in
theorem enc_head {key : Option KeyD} {map : Option MapD} (hF0 : Fr b a0) (hdO : d.Ok) (hki : KeyIn w0 b d.kp key) (hmi : MapIn w0 b d.mp map) (htab : TabP w0) (hgt : 7 < B) (hE0 : EL B b (plR d) w0 0 [] w) (hK : ∀ a' w', Fr b a' → EL B b (plR d) w0 640 (headT d key map) w' → (cat [1, 1, 1, 1, 1, 1, 1, 1, 1, 1, 1, 1, 1, 1, 1, 1, 1] encB).wp Tryz.prog Q a' w') :
    encB.wp Tryz.prog Q a0 w := by
  change Code.wp _ (Code.seq (Code.region _ _ _) (Code.seq _ _)) _ _ _
  refine wp_seq (rg_plain 1 (st_v (ex_as (v := .pointer none) rfl) ?_))
  have u1 := Up.put a0 (.pointer none) (Nat.le_refl 2)
  have hF1 := hF0.up u1 (by decide)
  change Code.wp _ _ _ (a0.put (some 2) (.pointer none)) _
  generalize a0.put (some 2) (.pointer none) = a1 at *
  clear hF0
  refine wp_seq (wp_seq (rg_plain 3 (st_addr faBuf hF1.p (by rw [hF1.size]; decide) fun a2 u2 h2 => ?_)))
  have hF2' := hF1.up u2 (by decide)
  refine wl_c (ex_call (fun _ _ => by kernel_rfl)) (R := fun v w' => v = .int .i64 0 ∧ EL B b (plR d) w0 0 [] w') ?_ ?_
  · have e : (#[Operand.tmp 12] : Array Operand).map a2.eval = #[.pointer (some ⟨b, 17, none⟩)] := by
      have e2 : a2.eval (.tmp 12) = .pointer (some ⟨b, 17, none⟩) := h2
      simp only [List.map_toArray, List.map_cons, List.map_nil, e2]
    rw [e]
    exact (enc_len hE0.enc).mono fun _ _ h => ⟨_, h.1, rfl, ⟨h.2, Nat.le_refl 0⟩⟩
  rintro v' w2 ⟨rfl, hE2⟩
  have h3 : (a2.put (some 13) (.int .i64 0)).eval (.tmp 13) = .int .i64 0 := put_get _ (by rw [hF2'.size]; decide)
  have u3 := Up.put a2 (.int .i64 0) (Nat.le_refl 13)
  have hF3 := hF2'.up u3 (by decide)
  generalize a2.put (some 13) (.int .i64 0) = a3 at *
  refine wl_o (ex_bin (v := .bool false) h3 rfl (by kernel_rfl)) (by rw [hF3.size]; decide) fun a4 u4 h4 => ?_
  have hF2 := hF3.up u4 (by decide)
  refine wp_cond_false h4 (wp_skip ?_)
  have U2 := ((u2.trans u3 (by decide)).trans u4 (by decide))
  clear u1 u2 u3 u4 h2 h3 h4 hF1 hF3 hF2' hE0
  obtain ⟨n, rfl⟩ : ∃ n, n = 0 := ⟨_, rfl⟩
  change Code.wp _ _ _ _ _

  refine wp_seq (s_wsc' (x := ⟨#[35, 69, 88, 84, 77, 51, 85, 10, 35, 69, 88, 84, 45, 88, 45, 86, 69, 82, 83, 73, 79, 78, 58]⟩) (h0 := hF2.p) (_ht := by decide) (hsz := by rw [hF2.size]; decide) (n := 0) (hE := hE2) (hn := by omega) (k' := 23) (hx' := by decide) (hK := fun a3 w3 u3 hE3 => (?_ : Code.wp _ _ _ _ _)))
  have hF3 := hF2.up u3 (by decide)
  have U3 := U2.trans u3 (by decide)
  clear hE2 hF2 u3
  refine wp_seq (s_wsf1_0' (x := bs (Lib.decDigits d.ver)) (hg := fun _ _ => by kernel_rfl) (hf := (fun _ _ => by kernel_rfl)) (hL := (fun _ => by kernel_rfl)) (hr := hF3.p) (hc := (fun l w hEE => (hEE.cell 20 (by decide)))) (hrt := by decide) (hB := by kernel_rfl) (hC := sv_any _ hdO.ver) (h0 := hF3.p) (_ht := by decide) (hsz := by rw [hF3.size]; decide) (n := 0 + 23) (hE := hE3) (hn := by omega) (k' := 20) (hx' := Nat.le_trans (dd_size (k := 2) hdO.ver (by decide)) (by decide)) (hK := fun a4 w4 u4 hE4 => (?_ : Code.wp _ _ _ _ _)))
  have hF4 := hF3.up u4 (by decide)
  have U4 := U3.trans u4 (by decide)
  clear hE3 hF3 u4
  refine wp_seq (s_wrc' (x := 10) (hx := by decide) (h0 := hF4.p) (_ht := by decide) (hsz := by rw [hF4.size]; decide) (n := 0 + 23 + 20) (hE := hE4) (hn := by omega) (k' := 1) (hx' := by decide) (hK := fun a5 w5 u5 hE5 => (?_ : Code.wp _ _ _ _ _)))
  have hF5 := hF4.up u5 (by decide)
  have U5 := U4.trans u5 (by decide)
  clear hE4 hF4 u5
  refine wp_seq (if_6 (hF0 := hF5) (hki := hki) (n := 0 + 23 + 20 + 1) (hE0 := hE5) (hn := by omega) (hK := fun a6 w6 u6 hE6 => (?_ : Code.wp _ _ _ _ _)))
  have hF6 := hF5.up u6 (by decide)
  have U6 := U5.trans u6 (by decide)
  clear hE5 hF5 u6
  refine wp_seq (if_26 (hF0 := hF6) (hmi := hmi) (htab := htab) (hgt := hgt) (n := 0 + 23 + 20 + 1 + 264) (hE0 := hE6) (hn := by omega) (hK := fun a7 w7 u7 hE7 => (?_ : Code.wp _ _ _ _ _)))
  have hF7 := hF6.up u7 (by decide)
  have U7 := U6.trans u7 (by decide)
  clear hE6 hF6 u7
  refine wp_seq (if_37 (hF0 := hF7) (hdO := hdO) (n := 0 + 23 + 20 + 1 + 264 + 108) (hE0 := hE7) (hn := by omega) (hK := fun a8 w8 u8 hE8 => (?_ : Code.wp _ _ _ _ _)))
  have hF8 := hF7.up u8 (by decide)
  have U8 := U7.trans u8 (by decide)
  clear hE7 hF7 u8
  refine wp_seq (s_wsc' (x := ⟨#[35, 69, 88, 84, 45, 88, 45, 77, 69, 68, 73, 65, 45, 83, 69, 81, 85, 69, 78, 67, 69, 58]⟩) (h0 := hF8.p) (_ht := by decide) (hsz := by rw [hF8.size]; decide) (n := 0 + 23 + 20 + 1 + 264 + 108 + 25) (hE := hE8) (hn := by omega) (k' := 22) (hx' := by decide) (hK := fun a9 w9 u9 hE9 => (?_ : Code.wp _ _ _ _ _)))
  have hF9 := hF8.up u9 (by decide)
  have U9 := U8.trans u9 (by decide)
  clear hE8 hF8 u9
  refine wp_seq (s_wsf1_1' (x := bs (Lib.decDigits d.seq)) (hg := fun _ _ => by kernel_rfl) (hf := (fun _ _ => by kernel_rfl)) (hL := (fun _ => by kernel_rfl)) (hr := hF9.p) (hc := (fun l w hEE => (hEE.cell 1 (by decide)))) (hrt := by decide) (hB := by kernel_rfl) (hC := fu_any _ hdO.seq htab hgt) (h0 := hF9.p) (_ht := by decide) (hsz := by rw [hF9.size]; decide) (n := 0 + 23 + 20 + 1 + 264 + 108 + 25 + 22) (hE := hE9) (hn := by omega) (k' := 20) (hx' := dd_size (Nat.lt_of_lt_of_le hdO.seq (by decide)) (by decide)) (hK := fun a10 w10 u10 hE10 => (?_ : Code.wp _ _ _ _ _)))
  have hF10 := hF9.up u10 (by decide)
  have U10 := U9.trans u10 (by decide)
  clear hE9 hF9 u10
  refine wp_seq (s_wrc' (x := 10) (hx := by decide) (h0 := hF10.p) (_ht := by decide) (hsz := by rw [hF10.size]; decide) (n := 0 + 23 + 20 + 1 + 264 + 108 + 25 + 22 + 20) (hE := hE10) (hn := by omega) (k' := 1) (hx' := by decide) (hK := fun a11 w11 u11 hE11 => (?_ : Code.wp _ _ _ _ _)))
  have hF11 := hF10.up u11 (by decide)
  have U11 := U10.trans u11 (by decide)
  clear hE10 hF10 u11
  refine wp_seq (s_wsc' (x := ⟨#[35, 69, 88, 84, 45, 88, 45, 84, 65, 82, 71, 69, 84, 68, 85, 82, 65, 84, 73, 79, 78, 58]⟩) (h0 := hF11.p) (_ht := by decide) (hsz := by rw [hF11.size]; decide) (n := 0 + 23 + 20 + 1 + 264 + 108 + 25 + 22 + 20 + 1) (hE := hE11) (hn := by omega) (k' := 22) (hx' := by decide) (hK := fun a12 w12 u12 hE12 => (?_ : Code.wp _ _ _ _ _)))
  have hF12 := hF11.up u12 (by decide)
  have U12 := U11.trans u12 (by decide)
  clear hE11 hF11 u12
  refine wp_seq (s_tgt (T := d.td) (hT := hdO.td) (hR := rfl) (htab := htab) (hgt := hgt) (h0 := hF12.p) (_ht := by decide) (hsz := by rw [hF12.size]; decide) (n := 0 + 23 + 20 + 1 + 264 + 108 + 25 + 22 + 20 + 1 + 22) (hE := hE12) (hn := by omega) (hB := by kernel_rfl) (hK := fun a13 w13 u13 hE13 => (?_ : Code.wp _ _ _ _ _)))
  have hF13 := hF12.up u13 (by decide)
  have U13 := U12.trans u13 (by decide)
  clear hE12 hF12 u13
  refine wp_seq (s_wrc' (x := 10) (hx := by decide) (h0 := hF13.p) (_ht := by decide) (hsz := by rw [hF13.size]; decide) (n := 0 + 23 + 20 + 1 + 264 + 108 + 25 + 22 + 20 + 1 + 22 + 3) (hE := hE13) (hn := by omega) (k' := 1) (hx' := by decide) (hK := fun a14 w14 u14 hE14 => (?_ : Code.wp _ _ _ _ _)))
  have hF14 := hF13.up u14 (by decide)
  have U14 := U13.trans u14 (by decide)
  clear hE13 hF13 u14
  refine wp_seq (if_51 (hF0 := hF14) (hdO := hdO) (htab := htab) (hgt := hgt) (n := 0 + 23 + 20 + 1 + 264 + 108 + 25 + 22 + 20 + 1 + 22 + 3 + 1) (hE0 := hE14) (hn := by omega) (hK := fun a15 w15 u15 hE15 => (?_ : Code.wp _ _ _ _ _)))
  have hF15 := hF14.up u15 (by decide)
  have U15 := U14.trans u15 (by decide)
  clear hE14 hF14 u15
  refine wp_seq (if_57 (hF0 := hF15) (hdO := hdO) (htab := htab) (hgt := hgt) (n := 0 + 23 + 20 + 1 + 264 + 108 + 25 + 22 + 20 + 1 + 22 + 3 + 1 + 58) (hE0 := hE15) (hn := by omega) (hK := fun a16 w16 u16 hE16 => (?_ : Code.wp _ _ _ _ _)))
  have hF16 := hF15.up u16 (by decide)
  have U16 := U15.trans u16 (by decide)
  clear hE15 hF15 u16
  refine wp_seq (if_61 (hF0 := hF16)  (n := 0 + 23 + 20 + 1 + 264 + 108 + 25 + 22 + 20 + 1 + 22 + 3 + 1 + 58 + 51) (hE0 := hE16) (hn := by omega) (hK := fun a17 w17 u17 hE17 => (?_ : Code.wp _ _ _ _ _)))
  have hF17 := hF16.up u17 (by decide)
  have U17 := U16.trans u17 (by decide)
  clear hE16 hF16 u17
  exact hK _ _ hF17 (hE17.to rfl (by omega))
end
end Go.Proofs.YtlphcidpaidclaaGreatDoor
