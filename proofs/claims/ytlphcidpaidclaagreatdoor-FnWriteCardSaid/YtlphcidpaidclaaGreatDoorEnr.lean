/-
  One round of Encode's loop over the segments.
-/
import Derived.Test.YtlphcidpaidclaaGreatDoorEnh
import Derived.Test.YtlphcidpaidclaaGreatDoorCac
namespace Go.Proofs.YtlphcidpaidclaaGreatDoor
open Go.RowKit
section
variable {B b q kb mb num n r j c i : Nat} {kp mp : Option Nat} {k : KeyD} {m : MapD} {s : SegD} {d : PlD} {w w0 : World} {a0 : Act} {l : List UInt8} {Q : Exit → Act → World → Prop}
theorem EL.drew {R : Nat → Option Value} (h : EL B b R w0 n l w) : EL B b R w0 n l w.drew := ⟨h.enc.drew, h.len⟩
theorem bo_args {x y : Operand} (w : World) : (do eqGuard .neq 9 x y (.string { data := #[] }) (.string { data := #[] }); binOp .neq 9 (.string { data := #[] }) (.string { data := #[] }) : Sem Value).run Tryz.prog w = .ok (.bool false) w := by
  simp [go_sem]
/-- the frame in a round -/
structure FrR (b r j c i : Nat) (a : Act) : Prop extends Fr b a where
  s4 : a.tmps.getD 4 undef = .map (some r)
  s5 : a.tmps.getD 5 undef = .int .u64 j
  s6 : a.tmps.getD 6 undef = .int .u64 c
  s7 : a.tmps.getD 7 undef = .int .u64 i
theorem FrR.up {t : Nat} {a a' : Act} (h : FrR b r j c i a) (u : Up t a a') (ht : 9 < t) : FrR b r j c i a' :=
  ⟨h.toFr.up u (by omega), u.var 4 (by omega) h.s4, u.var 5 (by omega) h.s5, u.var 6 (by omega) h.s6, u.var 7 (by omega) h.s7⟩
theorem put_fr {a : Act} {x : Nat} {v : Value} (h : Fr b a) (hx : x ≠ 0) : Fr b (a.put (some x) v) := ⟨put_size.trans h.size, h.defers, (put_other hx).trans h.p⟩

set_option maxRecDepth 100000 in
theorem if_112 (hF0 : Fr b a0) (hq : Blk w0 q 96 (segC num s kp mp)) (hqb : q ≠ b) (hsO : s.Ok) (h3_0 : a0.tmps.getD 3 undef = pt q) (hks : KeyIn w0 b kp s.key) {key : Option KeyD} (hki : KeyIn w0 b d.kp key) (hne : ∀ x, kp = some x → d.kp ≠ some x) (hn : n + 264 ≤ 1000000) (hE0 : EL B b (plR d) w0 n l w) (hK : ∀ a' w', Up 632 a0 a' → EL B b (plR d) w0 (n + 264) (optT tb_112 s.key l) w' → Q .normal a' w') :
    (cat [1, 1, 1, 1, 1, 1, 1, 1, 1, 1, 1, 1, 1, 1, 1, 1, 1, 1, 1, 1, 1, 0, 1, 0, 0, 1, 0, 0, 1, 1, 1, 1, 1, 0] encB).wp Tryz.prog Q a0 w := by
  change Code.wp _ (Code.seq (Code.region _ _ _) (Code.cond _ _ _)) _ _ _
  refine wp_seq (wp_region_still_lit hmix (by kernel_rfl) ?_)
  change wpStill _ _ w.drew (fun a' => Code.wp _ (Code.cond _ _ _) _ a' w.drew) _ _
  have hE1 := hE0.drew
  refine st_path1 (fun _ _ => by kernel_rfl) (fun _ => by kernel_rfl) h3_0 ((hE1.blk hq hqb (by decide)).cell 6) (by rw [hF0.size]; decide) fun a1 u1 h1 => ?_
  have hF1 := hF0.up u1 (by decide)
  refine st_o (ex_bin (vx := pto kp) h1 rfl (bo_key _ _)) (by rw [hF1.size]; decide) fun a2 u2 h2 => ?_
  have hF2 := hF1.up u2 (by decide)
  refine st_o (ex_mv (v := .bool kp.isSome) h2) (by rw [hF2.size]; decide) fun a3 u3 h3 => ?_
  have hF3 := hF2.up u3 (by decide)
  have U3 := (u1.trans u2 (by decide)).trans u3 (by decide)
  generalize hsk : s.key = sk at hks hK
  cases hks with
  | nil =>
    have hy : ∀ {a : Act} {ops : Array Oper}, (ops[5]?).bind (·.dst) = some 637 → a.tmps.getD 637 undef = .bool false → yielded ops a.tmps 5 = some false := fun h1 h2 => yl h1 h2
    refine st_sk (hy rfl h3) (by decide) (by rw [hF3.size]; decide) fun a4 u4 h4 => ?_
    refine st_sk (hy rfl (u4.var 637 (by decide) h3)) (by decide) (by rw [u4.size, hF3.size]; decide) fun a5 u5 h5 => ?_
    have U5 := u4.trans u5 (by decide)
    refine st_sk (hy rfl (U5.var 637 (by decide) h3)) (by decide) (by rw [U5.size, hF3.size]; decide) fun a6 u6 h6 => ?_
    have U6 := U5.trans u6 (by decide)
    refine st_sk (hy rfl (U6.var 637 (by decide) h3)) (by decide) (by rw [U6.size, hF3.size]; decide) fun a7 u7 h7 => ?_
    have U7 := U6.trans u7 (by decide)
    refine st_sk (hy rfl (U7.var 637 (by decide) h3)) (by decide) (by rw [U7.size, hF3.size]; decide) fun a8 u8 h8 => ?_
    have U8 := U7.trans u8 (by decide)
    refine st_sk (hy rfl (U8.var 637 (by decide) h3)) (by decide) (by rw [U8.size, hF3.size]; decide) fun a9 u9 h9 => ?_
    have U9 := U8.trans u9 (by decide)
    refine st_sk (hy rfl (U9.var 637 (by decide) h3)) (by decide) (by rw [U9.size, hF3.size]; decide) fun a10 u10 h10 => ?_
    have U10 := U9.trans u10 (by decide)
    refine st_sk (hy rfl (U10.var 637 (by decide) h3)) (by decide) (by rw [U10.size, hF3.size]; decide) fun a11 u11 h11 => ?_
    have U11 := U10.trans u11 (by decide)
    refine st_sk (hy rfl (U11.var 637 (by decide) h3)) (by decide) (by rw [U11.size, hF3.size]; decide) fun a12 u12 h12 => ?_
    have U12 := U11.trans u12 (by decide)
    refine st_o (ex_pick (q := false) (v := .bool false) (U12.var 637 (by decide) h3) rfl) (by rw [U12.size, hF3.size]; decide) fun a13 u13 h13 => ?_
    exact wp_cond_false h13 (wp_skip (hK _ _ ((U3.trans U12 (by decide)).trans u13 (by decide)) (hE1.mono (by omega))))
  | @mk p k h hb ok =>
    have hy : ∀ {a : Act} {ops : Array Oper}, (ops[5]?).bind (·.dst) = some 637 → a.tmps.getD 637 undef = .bool true → yielded ops a.tmps 5 = some true := fun h1 h2 => yl h1 h2
    have h33 := U3.var 3 (by decide) h3_0
    refine st_og (hy rfl h3) (ex_mv (v := pt b) hF3.p) (by rw [hF3.size]; decide) fun a4 u4 h4 => ?_
    refine st_og (hy rfl (u4.var 637 (by decide) h3)) (ex_nil (ad := ⟨b, 0, none⟩) h4) (by rw [u4.size, hF3.size]; decide) fun a5 u5 h5 => ?_
    have U5 := u4.trans u5 (by decide)
    refine st_og (hy rfl (U5.var 637 (by decide) h3)) (ex_fa (k := 21) (fun _ _ => by kernel_rfl) h5) (by rw [U5.size, hF3.size]; decide) fun a6 u6 h6 => ?_
    have U6 := U5.trans u6 (by decide)
    refine st_og (v := pto d.kp) (hy rfl (U6.var 637 (by decide) h3)) (ex_ld (fun _ => by kernel_rfl) h6 (hE1.cell 21 (by decide))) (by rw [U6.size, hF3.size]; decide) fun a7 u7 h7 => ?_
    have U7 := U6.trans u7 (by decide)
    refine st_og (hy rfl (U7.var 637 (by decide) h3)) (ex_mv (v := pt q) (U7.var 3 (by decide) h33)) (by rw [U7.size, hF3.size]; decide) fun a8 u8 h8 => ?_
    have U8 := U7.trans u8 (by decide)
    refine st_og (hy rfl (U8.var 637 (by decide) h3)) (ex_nil (ad := ⟨q, 0, none⟩) h8) (by rw [U8.size, hF3.size]; decide) fun a9 u9 h9 => ?_
    have U9 := U8.trans u9 (by decide)
    refine st_og (hy rfl (U9.var 637 (by decide) h3)) (ex_fa (k := 6) (fun _ _ => by kernel_rfl) h9) (by rw [U9.size, hF3.size]; decide) fun a10 u10 h10 => ?_
    have U10 := U9.trans u10 (by decide)
    refine st_og (v := pt p) (hy rfl (U10.var 637 (by decide) h3)) (ex_ld (fun _ => by kernel_rfl) h10 ((hE1.blk hq hqb (by decide)).cell 6)) (by rw [U10.size, hF3.size]; decide) fun a11 u11 h11 => ?_
    have U11 := U10.trans u11 (by decide)
    have h641 : a11.tmps.getD 641 undef = pto d.kp := u11.var 641 (by decide) (u10.var 641 (by decide) (u9.var 641 (by decide) (u8.var 641 (by decide) h7)))
    have hcmp : ∀ x y, (do eqGuard .neq 67 x y (pto d.kp) (pt p); binOp .neq 67 (pto d.kp) (pt p) : Sem Value).run Tryz.prog w.drew = .ok (.bool true) w.drew := fun x y => by
      have hn2 := hne p rfl
      generalize d.kp = o at hki hn2
      cases hki with
      | nil => exact bo_keyn1 _ _
      | @mk p' k' h' hb' ok' => exact bo_keyn2 (fun e => hn2 (by rw [e])) (hE1.blk h' hb' (by decide)) (hE1.blk h hb (by decide))
    refine st_og (hy rfl (U11.var 637 (by decide) h3)) (ex_bin (v := .bool true) h641 h11 (hcmp _ _)) (by rw [U11.size, hF3.size]; decide) fun a12 u12 h12 => ?_
    have U12 := U11.trans u12 (by decide)
    refine st_o (ex_pick (q := true) (v := .bool true) (U12.var 637 (by decide) h3) h12) (by rw [U12.size, hF3.size]; decide) fun a13 u13 h13 => ?_
    have U13 := (U3.trans U12 (by decide)).trans u13 (by decide)
    exact wp_cond_true h13 (bd_112 (hF0 := hF0.up U13 (by decide)) (hq := hq) (hqb := hqb) (hsO := hsO) (h3_0 := U13.var 3 (by decide) h3_0) (hk := h) (hkb := hb) (hkO := ok) (n := n) (hn := by omega) (hE0 := hE1) (hK := fun a' w' u h => hK a' w' (U13.trans u (by decide)) h))

def segMapT (d : PlD) (s : SegD) (l : List UInt8) : List UInt8 := if d.mp.isNone then optT tb_134 s.map l else l
set_option maxRecDepth 100000 in
theorem if_134 (hF0 : Fr b a0) (hq : Blk w0 q 96 (segC num s kp mp)) (hqb : q ≠ b) (hsO : s.Ok) (h3_0 : a0.tmps.getD 3 undef = pt q) (hms : MapIn w0 b mp s.map) (htab : TabP w0) (hgt : 7 < B) (hn : n + 108 ≤ 1000000) (hE0 : EL B b (plR d) w0 n l w) (hK : ∀ a' w', Up 783 a0 a' → EL B b (plR d) w0 (n + 108) (segMapT d s l) w' → Q .normal a' w') :
    (cat [1, 1, 1, 1, 1, 1, 1, 1, 1, 1, 1, 1, 1, 1, 1, 1, 1, 1, 1, 1, 1, 0, 1, 0, 0, 1, 0, 0, 1, 1, 1, 1, 1, 1, 1, 0] encB).wp Tryz.prog Q a0 w := by
  change Code.wp _ (Code.seq (Code.region _ _ _) (Code.cond _ _ _)) _ _ _
  refine wp_seq (rg_plain 12 ?_)
  refine st_path1 (fun _ _ => by kernel_rfl) (fun _ => by kernel_rfl) hF0.p (hE0.cell 22 (by decide)) (by rw [hF0.size]; decide) fun a1 u1 h1 => ?_
  have hF1 := hF0.up u1 (by decide)
  refine st_o (ex_bin (vx := pto d.mp) h1 rfl (bo_mapnil _ _)) (by rw [hF1.size]; decide) fun a2 u2 h2 => ?_
  have hF2 := hF1.up u2 (by decide)
  refine st_o (ex_mv (v := .bool d.mp.isNone) h2) (by rw [hF2.size]; decide) fun a3 u3 h3 => ?_
  have hF3 := hF2.up u3 (by decide)
  have U3 := (u1.trans u2 (by decide)).trans u3 (by decide)
  cases hd : d.mp.isNone with
  | false =>
    rw [hd] at h3
    have hy : ∀ {a : Act} {ops : Array Oper}, (ops[5]?).bind (·.dst) = some 788 → a.tmps.getD 788 undef = .bool false → yielded ops a.tmps 5 = some false := fun h1 h2 => yl h1 h2
    refine st_sk (hy rfl h3) (by decide) (by rw [hF3.size]; decide) fun a4 u4 h4 => ?_
    refine st_sk (hy rfl (u4.var 788 (by decide) h3)) (by decide) (by rw [u4.size, hF3.size]; decide) fun a5 u5 h5 => ?_
    have U5 := u4.trans u5 (by decide)
    refine st_sk (hy rfl (U5.var 788 (by decide) h3)) (by decide) (by rw [U5.size, hF3.size]; decide) fun a6 u6 h6 => ?_
    have U6 := U5.trans u6 (by decide)
    refine st_sk (hy rfl (U6.var 788 (by decide) h3)) (by decide) (by rw [U6.size, hF3.size]; decide) fun a7 u7 h7 => ?_
    have U7 := U6.trans u7 (by decide)
    refine st_sk (hy rfl (U7.var 788 (by decide) h3)) (by decide) (by rw [U7.size, hF3.size]; decide) fun a8 u8 h8 => ?_
    have U8 := U7.trans u8 (by decide)
    refine st_o (ex_pick (q := false) (v := .bool false) (U8.var 788 (by decide) h3) rfl) (by rw [U8.size, hF3.size]; decide) fun a9 u9 h9 => ?_
    exact wp_cond_false h9 (wp_skip (hK _ _ ((U3.trans U8 (by decide)).trans u9 (by decide)) (hE0.to (by unfold segMapT; rw [hd]; rfl) (by omega))))
  | true =>
    rw [hd] at h3
    have hy : ∀ {a : Act} {ops : Array Oper}, (ops[5]?).bind (·.dst) = some 788 → a.tmps.getD 788 undef = .bool true → yielded ops a.tmps 5 = some true := fun h1 h2 => yl h1 h2
    have h33 := U3.var 3 (by decide) h3_0
    refine st_og (hy rfl h3) (ex_mv (v := pt q) h33) (by rw [hF3.size]; decide) fun a4 u4 h4 => ?_
    refine st_og (hy rfl (u4.var 788 (by decide) h3)) (ex_nil (ad := ⟨q, 0, none⟩) h4) (by rw [u4.size, hF3.size]; decide) fun a5 u5 h5 => ?_
    have U5 := u4.trans u5 (by decide)
    refine st_og (hy rfl (U5.var 788 (by decide) h3)) (ex_fa (k := 7) (fun _ _ => by kernel_rfl) h5) (by rw [U5.size, hF3.size]; decide) fun a6 u6 h6 => ?_
    have U6 := U5.trans u6 (by decide)
    refine st_og (v := pto mp) (hy rfl (U6.var 788 (by decide) h3)) (ex_ld (fun _ => by kernel_rfl) h6 ((hE0.blk hq hqb (by decide)).cell 7)) (by rw [U6.size, hF3.size]; decide) fun a7 u7 h7 => ?_
    have U7 := U6.trans u7 (by decide)
    refine st_og (hy rfl (U7.var 788 (by decide) h3)) (ex_bin h7 rfl (bo_map _ _)) (by rw [U7.size, hF3.size]; decide) fun a8 u8 h8 => ?_
    have U8 := U7.trans u8 (by decide)
    refine st_o (ex_pick (q := true) (v := .bool mp.isSome) (U8.var 788 (by decide) h3) h8) (by rw [U8.size, hF3.size]; decide) fun a9 u9 h9 => ?_
    have U9 := (U3.trans U8 (by decide)).trans u9 (by decide)
    have hK' : ∀ a' w', Up 783 a0 a' → EL B b (plR d) w0 (n + 108) (optT tb_134 s.map l) w' → Q .normal a' w' := fun a' w' u h => hK a' w' u (h.to (by unfold segMapT; rw [hd]; rfl) (Nat.le_refl _))
    clear hK
    generalize hsm : s.map = sm at hms hK'
    cases hms with
    | nil => exact wp_cond_false h9 (wp_skip (hK' _ _ U9 (hE0.mono (by omega))))
    | @mk p m h hb ok =>
      exact wp_cond_true h9 (bd_134 (hF0 := hF0.up U9 (by decide)) (hq := hq) (hqb := hqb) (hsO := hsO) (h3_0 := U9.var 3 (by decide) h3_0) (hm := h) (hmb := hb) (hmO := ok) (htab := htab) (hgt := hgt) (n := n) (hn := by omega) (hE0 := hE0) (hK := fun a' w' u h => hK' a' w' (U9.trans u (by decide)) h))

def segT1 (d : PlD) (s : SegD) (l : List UInt8) : List UInt8 := ((tx_149 s (tx_145 s (segMapT d s (tx_132 s (optT tb_112 s.key l))))) ++ [35, 69, 88, 84, 73, 78, 70, 58])
set_option maxRecDepth 100000 in
theorem ph2 (hF0 : Fr b a0) (hq : Blk w0 q 96 (segC num s kp mp)) (hqb : q ≠ b) (hsO : s.Ok) (h3_0 : a0.tmps.getD 3 undef = pt q) (hks : KeyIn w0 b kp s.key) {key : Option KeyD} (hki : KeyIn w0 b d.kp key) (hne : ∀ x, kp = some x → d.kp ≠ some x) (hms : MapIn w0 b mp s.map) (htab : TabP w0) (hgt : 7 < B) (hn : n + 524 ≤ 1000000) (hE0 : EL B b (plR d) w0 n l w) (hK : ∀ a' w', Up 415 a0 a' → EL B b (plR d) w0 (n + 524) (segT1 d s l) w' → (cat [1, 1, 1, 1, 1, 1, 1, 1, 1, 1, 1, 1, 1, 1, 1, 1, 1, 1, 1, 1, 1, 0, 1, 0, 0, 1, 0, 0, 1, 1, 1, 1, 1, 1, 1, 1, 1, 1, 1] encB).wp Tryz.prog Q a' w') :
    (cat [1, 1, 1, 1, 1, 1, 1, 1, 1, 1, 1, 1, 1, 1, 1, 1, 1, 1, 1, 1, 1, 0, 1, 0, 0, 1, 0, 0, 1, 1, 1, 1] encB).wp Tryz.prog Q a0 w := by
  change Code.wp _ (Code.seq (Code.seq _ _) (Code.seq _ _)) _ _ _
  refine wp_seq (t_bin1 (q := false) (hf := (fun _ _ => by kernel_rfl)) (hL := (fun _ => by kernel_rfl)) (hr := h3_0) (hc := ((hE0.blk hq hqb (by decide)).cell 9)) (hb := fun w => bo_scnil w) (hsz := by rw [hF0.size]; decide) (hT := fun h => by cases h) (hN := fun _ a1 u1 => (wp_skip (?_ : Code.wp _ _ _ _ _))))
  have hE1 := hE0
  have hF1 := hF0.up u1 (by decide)
  have h3_1 := u1.var 3 (by decide) h3_0
  have U1 := u1
  clear hE0 hF0 u1 h3_0
  refine wp_seq (if_112 (hF0 := hF1) (hq := hq) (hqb := hqb) (hsO := hsO) (h3_0 := h3_1) (hks := hks) (hki := hki) (hne := hne) (n := n) (hn := by omega) (hE0 := hE1) (hK := fun a2 w2 u2 hE2 => (?_ : Code.wp _ _ _ _ _)))
  have hF2 := hF1.up u2 (by decide)
  have h3_2 := u2.var 3 (by decide) h3_1
  have U2 := U1.trans u2 (by decide)
  clear hE1 hF1 u2 h3_1
  refine wp_seq (if_132 (hq := hq) (hqb := hqb) (hsO := hsO) (htab := htab) (hgt := hgt) (hF0 := hF2) (h3_0 := h3_2) (n := n + 264) (hE0 := hE2) (hn := by omega) (hK := fun a3 w3 u3 hE3 => (?_ : Code.wp _ _ _ _ _)))
  have hF3 := hF2.up u3 (by decide)
  have h3_3 := u3.var 3 (by decide) h3_2
  have U3 := U2.trans u3 (by decide)
  clear hE2 hF2 u3 h3_2
  refine wp_seq (if_134 (hF0 := hF3) (hq := hq) (hqb := hqb) (hsO := hsO) (h3_0 := h3_3) (hms := hms) (htab := htab) (hgt := hgt) (n := n + 264 + 21) (hn := by omega) (hE0 := hE3) (hK := fun a4 w4 u4 hE4 => (?_ : Code.wp _ _ _ _ _)))
  have hF4 := hF3.up u4 (by decide)
  have h3_4 := u4.var 3 (by decide) h3_3
  have U4 := U3.trans u4 (by decide)
  clear hE3 hF3 u4 h3_3
  refine wp_seq (if_145 (hq := hq) (hqb := hqb) (hsO := hsO) (htab := htab) (hgt := hgt) (hF0 := hF4) (h3_0 := h3_4) (n := n + 264 + 21 + 108) (hE0 := hE4) (hn := by omega) (hK := fun a5 w5 u5 hE5 => (?_ : Code.wp _ _ _ _ _)))
  have hF5 := hF4.up u5 (by decide)
  have h3_5 := u5.var 3 (by decide) h3_4
  have U5 := U4.trans u5 (by decide)
  clear hE4 hF4 u5 h3_4
  refine wp_seq (if_149 (hq := hq) (hqb := hqb) (hsO := hsO) (htab := htab) (hgt := hgt) (hF0 := hF5) (h3_0 := h3_5) (n := n + 264 + 21 + 108 + 66) (hE0 := hE5) (hn := by omega) (hK := fun a6 w6 u6 hE6 => (?_ : Code.wp _ _ _ _ _)))
  have hF6 := hF5.up u6 (by decide)
  have h3_6 := u6.var 3 (by decide) h3_5
  have U6 := U5.trans u6 (by decide)
  clear hE5 hF5 u6 h3_5
  refine wp_seq (s_wsc' (x := ⟨#[35, 69, 88, 84, 73, 78, 70, 58]⟩) (h0 := hF6.p) (_ht := by decide) (hsz := by rw [hF6.size]; decide) (n := n + 264 + 21 + 108 + 66 + 57) (hE := hE6) (hn := by omega) (k' := 8) (hx' := by decide) (hK := fun a7 w7 u7 hE7 => (?_ : Code.wp _ _ _ _ _)))
  have hF7 := hF6.up u7 (by decide)
  have h3_7 := u7.var 3 (by decide) h3_6
  have U7 := U6.trans u7 (by decide)
  clear hE6 hF6 u7 h3_6
  exact hK _ _ (U7.down (by decide)) (hE7.to rfl (by omega))
def segT4 (s : SegD) (l : List UInt8) : List UInt8 := (((((l ++ [44]) ++ s.title.data.toList) ++ [10]) ++ s.uri.data.toList) ++ [10])
set_option maxRecDepth 100000 in
theorem ph4 (hF0 : Fr b a0) (hq : Blk w0 q 96 (segC num s kp mp)) (hqb : q ≠ b) (hsO : s.Ok) (h3_0 : a0.tmps.getD 3 undef = pt q) (hn : n + 83 ≤ 1000000) (hE0 : EL B b (plR d) w0 n l w) (hK : ∀ a' w', Up 973 a0 a' → EL B b (plR d) w0 (n + 83) (segT4 s l) w' → Q .normal a' w') :
    (cat [1, 1, 1, 1, 1, 1, 1, 1, 1, 1, 1, 1, 1, 1, 1, 1, 1, 1, 1, 1, 1, 0, 1, 0, 0, 1, 0, 0, 1, 1, 1, 1, 1, 1, 1, 1, 1, 1, 1, 1] encB).wp Tryz.prog Q a0 w := by
  change Code.wp _ (Code.seq _ (Code.seq _ _)) _ _ _
  refine wp_seq (s_wrc' (x := 44) (hx := by decide) (h0 := hF0.p) (_ht := by decide) (hsz := by rw [hF0.size]; decide) (n := n) (hE := hE0) (hn := by omega) (k' := 1) (hx' := by decide) (hK := fun a1 w1 u1 hE1 => (?_ : Code.wp _ _ _ _ _)))
  have hF1 := hF0.up u1 (by decide)
  have h3_1 := u1.var 3 (by decide) h3_0
  have U1 := u1
  clear hE0 hF0 u1 h3_0
  refine wp_seq (s_wsp1' (x := s.title) (hf := (fun _ _ => by kernel_rfl)) (hL := (fun _ => by kernel_rfl)) (hr := h3_1) (hc := ((hE1.blk hq hqb (by decide)).cell 1)) (hv := rfl) (hrt := by decide) (hB := by kernel_rfl) (h0 := hF1.p) (_ht := by decide) (hsz := by rw [hF1.size]; decide) (n := n + 1) (hE := hE1) (hn := by omega) (k' := 40) (hx' := hsO.title) (hK := fun a2 w2 u2 hE2 => (?_ : Code.wp _ _ _ _ _)))
  have hF2 := hF1.up u2 (by decide)
  have h3_2 := u2.var 3 (by decide) h3_1
  have U2 := U1.trans u2 (by decide)
  clear hE1 hF1 u2 h3_1
  refine wp_seq (s_wrc' (x := 10) (hx := by decide) (h0 := hF2.p) (_ht := by decide) (hsz := by rw [hF2.size]; decide) (n := n + 1 + 40) (hE := hE2) (hn := by omega) (k' := 1) (hx' := by decide) (hK := fun a3 w3 u3 hE3 => (?_ : Code.wp _ _ _ _ _)))
  have hF3 := hF2.up u3 (by decide)
  have h3_3 := u3.var 3 (by decide) h3_2
  have U3 := U2.trans u3 (by decide)
  clear hE2 hF2 u3 h3_2
  refine wp_seq (s_wsp1' (x := s.uri) (hf := (fun _ _ => by kernel_rfl)) (hL := (fun _ => by kernel_rfl)) (hr := h3_3) (hc := ((hE3.blk hq hqb (by decide)).cell 2)) (hv := rfl) (hrt := by decide) (hB := by kernel_rfl) (h0 := hF3.p) (_ht := by decide) (hsz := by rw [hF3.size]; decide) (n := n + 1 + 40 + 1) (hE := hE3) (hn := by omega) (k' := 40) (hx' := hsO.uri) (hK := fun a4 w4 u4 hE4 => (?_ : Code.wp _ _ _ _ _)))
  have hF4 := hF3.up u4 (by decide)
  have h3_4 := u4.var 3 (by decide) h3_3
  have U4 := U3.trans u4 (by decide)
  clear hE3 hF3 u4 h3_3
  refine wp_seq (t_bin1 (q := false) (hf := (fun _ _ => by kernel_rfl)) (hL := (fun _ => by kernel_rfl)) (hr := hF4.p) (hc := hE4.cell 3 (by decide)) (hb := fun w => bo_args w) (hsz := by rw [hF4.size]; decide) (hT := fun h => by cases h) (hN := fun _ a5 u5 => (wp_skip (?_ : Code.wp _ _ _ _ _))))
  have hE5 := hE4
  have hF5 := hF4.up u5 (by decide)
  have h3_5 := u5.var 3 (by decide) h3_4
  have U5 := U4.trans u5 (by decide)
  clear hE4 hF4 u5 h3_4
  refine s_wrc' (x := 10) (hx := by decide) (h0 := hF5.p) (_ht := by decide) (hsz := by rw [hF5.size]; decide) (n := n + 1 + 40 + 1 + 40) (hE := hE5) (hn := by omega) (k' := 1) (hx' := by decide) (hK := fun a6 w6 u6 hE6 => ?_)
  have hF6 := hF5.up u6 (by decide)
  have h3_6 := u6.var 3 (by decide) h3_5
  have U6 := U5.trans u6 (by decide)
  clear hE5 hF5 u6 h3_5
  exact hK _ _ (U6.down (by decide)) (hE6.to rfl (by omega))
end
end Go.Proofs.YtlphcidpaidclaaGreatDoor
