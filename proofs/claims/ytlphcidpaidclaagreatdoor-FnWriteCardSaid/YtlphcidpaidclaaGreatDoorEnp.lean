/-
  The pieces of Encode: if-statements and their bodies.
-/
import Derived.Test.YtlphcidpaidclaaGreatDoorDat
namespace Go.Proofs.YtlphcidpaidclaaGreatDoor
open Go.RowKit
section
variable {B b q kb mb num n : Nat} {kp mp : Option Nat} {k : KeyD} {m : MapD} {s : SegD} {d : PlD} {w w0 : World} {a0 : Act} {l : List UInt8} {Q : Exit → Act → World → Prop}
def tx_14 (k : KeyD) (l : List UInt8) : List UInt8 := if strNe k.iv ⟨#[]⟩ = true then ((l ++ [44, 73, 86, 61]) ++ k.iv.data.toList) else l
set_option maxRecDepth 100000 in
theorem if_14 (hF0 : Fr b a0) (hk : Blk w0 kb 101 (keyC k)) (hkb : kb ≠ b) (hkO : k.Ok) (hn : n + 44 ≤ 1000000) (hE0 : EL B b (plR { d with kp := some kb }) w0 n l w) (hK : ∀ a' w', Up 86 a0 a' → EL B b (plR { d with kp := some kb }) w0 (n + 44) (tx_14 k l) w' → Q .normal a' w') :
    (cat [1, 1, 1, 1, 1, 0, 1, 0, 1, 1, 1, 0, 1, 0, 1, 1, 1, 0] encB).wp Tryz.prog Q a0 w := by
  change Code.wp _ (Code.seq (Code.region _ _ _) (Code.cond _ _ _)) _ _ _
  refine t_bin2 (hf := (fun _ _ => by kernel_rfl)) (hL := (fun _ => by kernel_rfl)) (hf2 := (fun _ _ => by kernel_rfl)) (hL2 := (fun _ => by kernel_rfl)) (hr := hF0.p) (hc := (hE0.cell 21 (by decide))) (hc2 := ((hE0.blk hk hkb (by decide)).cell 2)) (hb := (fun w => bo_strne _ _ w)) (hsz := by rw [hF0.size]; decide) (q := strNe k.iv ⟨#[]⟩) (hT := fun hqt a1 u1 => ?_) (hN := fun hqt a1 u1 => ?_)
  · have hF1 := hF0.up u1 (by decide)
    have U1 := u1
    have hE1 := hE0
    clear hE0 hF0 u1
    refine wp_seq (s_wsc' (x := ⟨#[44, 73, 86, 61]⟩) (h0 := hF1.p) (_ht := by decide) (hsz := by rw [hF1.size]; decide) (n := n) (hE := hE1) (hn := by omega) (k' := 4) (hx' := by decide) (hK := fun a2 w2 u2 hE2 => (?_ : Code.wp _ _ _ _ _)))
    have hF2 := hF1.up u2 (by decide)
    have U2 := U1.trans u2 (by decide)
    clear hE1 hF1 u2
    refine s_wsp2' (x := k.iv) (hf := (fun _ _ => by kernel_rfl)) (hL := (fun _ => by kernel_rfl)) (hf2 := (fun _ _ => by kernel_rfl)) (hL2 := (fun _ => by kernel_rfl)) (hr := hF2.p) (hc := (hE2.cell 21 (by decide))) (hc2 := ((hE2.blk hk hkb (by decide)).cell 2)) (hv := rfl) (hrt := by decide) (hB := by kernel_rfl) (h0 := hF2.p) (_ht := by decide) (hsz := by rw [hF2.size]; decide) (n := n + 4) (hE := hE2) (hn := by omega) (k' := 40) (hx' := hkO.iv) (hK := fun a3 w3 u3 hE3 => ?_)
    have hF3 := hF2.up u3 (by decide)
    have U3 := U2.trans u3 (by decide)
    clear hE2 hF2 u3
    exact hK _ _ (U3.down (by decide)) (hE3.to (by unfold tx_14; exact (if_pos hqt).symm) (by omega))
  · exact wp_skip (hK _ _ u1 (hE0.to (by unfold tx_14; exact (if_neg (by rw [hqt]; decide)).symm) (by omega)))
def tx_17 (k : KeyD) (l : List UInt8) : List UInt8 := if strNe k.fo ⟨#[]⟩ = true then (((l ++ [44, 75, 69, 89, 70, 79, 82, 77, 65, 84, 61, 34]) ++ k.fo.data.toList) ++ [34]) else l
set_option maxRecDepth 100000 in
theorem if_17 (hF0 : Fr b a0) (hk : Blk w0 kb 101 (keyC k)) (hkb : kb ≠ b) (hkO : k.Ok) (hn : n + 53 ≤ 1000000) (hE0 : EL B b (plR { d with kp := some kb }) w0 n l w) (hK : ∀ a' w', Up 109 a0 a' → EL B b (plR { d with kp := some kb }) w0 (n + 53) (tx_17 k l) w' → Q .normal a' w') :
    (cat [1, 1, 1, 1, 1, 0, 1, 0, 1, 1, 1, 0, 1, 0, 1, 1, 1, 1, 0] encB).wp Tryz.prog Q a0 w := by
  change Code.wp _ (Code.seq (Code.region _ _ _) (Code.cond _ _ _)) _ _ _
  refine t_bin2 (hf := (fun _ _ => by kernel_rfl)) (hL := (fun _ => by kernel_rfl)) (hf2 := (fun _ _ => by kernel_rfl)) (hL2 := (fun _ => by kernel_rfl)) (hr := hF0.p) (hc := (hE0.cell 21 (by decide))) (hc2 := ((hE0.blk hk hkb (by decide)).cell 3)) (hb := (fun w => bo_strne _ _ w)) (hsz := by rw [hF0.size]; decide) (q := strNe k.fo ⟨#[]⟩) (hT := fun hqt a1 u1 => ?_) (hN := fun hqt a1 u1 => ?_)
  · have hF1 := hF0.up u1 (by decide)
    have U1 := u1
    have hE1 := hE0
    clear hE0 hF0 u1
    refine wp_seq (s_wsc' (x := ⟨#[44, 75, 69, 89, 70, 79, 82, 77, 65, 84, 61, 34]⟩) (h0 := hF1.p) (_ht := by decide) (hsz := by rw [hF1.size]; decide) (n := n) (hE := hE1) (hn := by omega) (k' := 12) (hx' := by decide) (hK := fun a2 w2 u2 hE2 => (?_ : Code.wp _ _ _ _ _)))
    have hF2 := hF1.up u2 (by decide)
    have U2 := U1.trans u2 (by decide)
    clear hE1 hF1 u2
    refine wp_seq (s_wsp2' (x := k.fo) (hf := (fun _ _ => by kernel_rfl)) (hL := (fun _ => by kernel_rfl)) (hf2 := (fun _ _ => by kernel_rfl)) (hL2 := (fun _ => by kernel_rfl)) (hr := hF2.p) (hc := (hE2.cell 21 (by decide))) (hc2 := ((hE2.blk hk hkb (by decide)).cell 3)) (hv := rfl) (hrt := by decide) (hB := by kernel_rfl) (h0 := hF2.p) (_ht := by decide) (hsz := by rw [hF2.size]; decide) (n := n + 12) (hE := hE2) (hn := by omega) (k' := 40) (hx' := hkO.fo) (hK := fun a3 w3 u3 hE3 => (?_ : Code.wp _ _ _ _ _)))
    have hF3 := hF2.up u3 (by decide)
    have U3 := U2.trans u3 (by decide)
    clear hE2 hF2 u3
    refine s_wrc' (x := 34) (hx := by decide) (h0 := hF3.p) (_ht := by decide) (hsz := by rw [hF3.size]; decide) (n := n + 12 + 40) (hE := hE3) (hn := by omega) (k' := 1) (hx' := by decide) (hK := fun a4 w4 u4 hE4 => ?_)
    have hF4 := hF3.up u4 (by decide)
    have U4 := U3.trans u4 (by decide)
    clear hE3 hF3 u4
    exact hK _ _ (U4.down (by decide)) (hE4.to (by unfold tx_17; exact (if_pos hqt).symm) (by omega))
  · exact wp_skip (hK _ _ u1 (hE0.to (by unfold tx_17; exact (if_neg (by rw [hqt]; decide)).symm) (by omega)))
def tx_21 (k : KeyD) (l : List UInt8) : List UInt8 := if strNe k.ve ⟨#[]⟩ = true then (((l ++ [44, 75, 69, 89, 70, 79, 82, 77, 65, 84, 86, 69, 82, 83, 73, 79, 78, 83, 61, 34]) ++ k.ve.data.toList) ++ [34]) else l
set_option maxRecDepth 100000 in
theorem if_21 (hF0 : Fr b a0) (hk : Blk w0 kb 101 (keyC k)) (hkb : kb ≠ b) (hkO : k.Ok) (hn : n + 61 ≤ 1000000) (hE0 : EL B b (plR { d with kp := some kb }) w0 n l w) (hK : ∀ a' w', Up 136 a0 a' → EL B b (plR { d with kp := some kb }) w0 (n + 61) (tx_21 k l) w' → Q .normal a' w') :
    (cat [1, 1, 1, 1, 1, 0, 1, 0, 1, 1, 1, 0, 1, 0, 1, 1, 1, 1, 1] encB).wp Tryz.prog Q a0 w := by
  change Code.wp _ (Code.seq (Code.region _ _ _) (Code.cond _ _ _)) _ _ _
  refine t_bin2 (hf := (fun _ _ => by kernel_rfl)) (hL := (fun _ => by kernel_rfl)) (hf2 := (fun _ _ => by kernel_rfl)) (hL2 := (fun _ => by kernel_rfl)) (hr := hF0.p) (hc := (hE0.cell 21 (by decide))) (hc2 := ((hE0.blk hk hkb (by decide)).cell 4)) (hb := (fun w => bo_strne _ _ w)) (hsz := by rw [hF0.size]; decide) (q := strNe k.ve ⟨#[]⟩) (hT := fun hqt a1 u1 => ?_) (hN := fun hqt a1 u1 => ?_)
  · have hF1 := hF0.up u1 (by decide)
    have U1 := u1
    have hE1 := hE0
    clear hE0 hF0 u1
    refine wp_seq (s_wsc' (x := ⟨#[44, 75, 69, 89, 70, 79, 82, 77, 65, 84, 86, 69, 82, 83, 73, 79, 78, 83, 61, 34]⟩) (h0 := hF1.p) (_ht := by decide) (hsz := by rw [hF1.size]; decide) (n := n) (hE := hE1) (hn := by omega) (k' := 20) (hx' := by decide) (hK := fun a2 w2 u2 hE2 => (?_ : Code.wp _ _ _ _ _)))
    have hF2 := hF1.up u2 (by decide)
    have U2 := U1.trans u2 (by decide)
    clear hE1 hF1 u2
    refine wp_seq (s_wsp2' (x := k.ve) (hf := (fun _ _ => by kernel_rfl)) (hL := (fun _ => by kernel_rfl)) (hf2 := (fun _ _ => by kernel_rfl)) (hL2 := (fun _ => by kernel_rfl)) (hr := hF2.p) (hc := (hE2.cell 21 (by decide))) (hc2 := ((hE2.blk hk hkb (by decide)).cell 4)) (hv := rfl) (hrt := by decide) (hB := by kernel_rfl) (h0 := hF2.p) (_ht := by decide) (hsz := by rw [hF2.size]; decide) (n := n + 20) (hE := hE2) (hn := by omega) (k' := 40) (hx' := hkO.ve) (hK := fun a3 w3 u3 hE3 => (?_ : Code.wp _ _ _ _ _)))
    have hF3 := hF2.up u3 (by decide)
    have U3 := U2.trans u3 (by decide)
    clear hE2 hF2 u3
    refine s_wrc' (x := 34) (hx := by decide) (h0 := hF3.p) (_ht := by decide) (hsz := by rw [hF3.size]; decide) (n := n + 20 + 40) (hE := hE3) (hn := by omega) (k' := 1) (hx' := by decide) (hK := fun a4 w4 u4 hE4 => ?_)
    have hF4 := hF3.up u4 (by decide)
    have U4 := U3.trans u4 (by decide)
    clear hE3 hF3 u4
    exact hK _ _ (U4.down (by decide)) (hE4.to (by unfold tx_21; exact (if_pos hqt).symm) (by omega))
  · exact wp_skip (hK _ _ u1 (hE0.to (by unfold tx_21; exact (if_neg (by rw [hqt]; decide)).symm) (by omega)))
def tx_10 (k : KeyD) (l : List UInt8) : List UInt8 := if strNe k.me ⟨#[78, 79, 78, 69]⟩ = true then (tx_21 k (tx_17 k (tx_14 k (((l ++ [44, 85, 82, 73, 61, 34]) ++ k.uri.data.toList) ++ [34])))) else l
set_option maxRecDepth 100000 in
theorem if_10 (hF0 : Fr b a0) (hk : Blk w0 kb 101 (keyC k)) (hkb : kb ≠ b) (hkO : k.Ok) (hn : n + 205 ≤ 1000000) (hE0 : EL B b (plR { d with kp := some kb }) w0 n l w) (hK : ∀ a' w', Up 59 a0 a' → EL B b (plR { d with kp := some kb }) w0 (n + 205) (tx_10 k l) w' → Q .normal a' w') :
    (cat [1, 1, 1, 1, 1, 0, 1, 0, 1, 1, 1, 0] encB).wp Tryz.prog Q a0 w := by
  change Code.wp _ (Code.seq (Code.region _ _ _) (Code.cond _ _ _)) _ _ _
  refine t_bin2 (hf := (fun _ _ => by kernel_rfl)) (hL := (fun _ => by kernel_rfl)) (hf2 := (fun _ _ => by kernel_rfl)) (hL2 := (fun _ => by kernel_rfl)) (hr := hF0.p) (hc := (hE0.cell 21 (by decide))) (hc2 := ((hE0.blk hk hkb (by decide)).cell 0)) (hb := (fun w => bo_strne _ _ w)) (hsz := by rw [hF0.size]; decide) (q := strNe k.me ⟨#[78, 79, 78, 69]⟩) (hT := fun hqt a1 u1 => ?_) (hN := fun hqt a1 u1 => ?_)
  · have hF1 := hF0.up u1 (by decide)
    have U1 := u1
    have hE1 := hE0
    clear hE0 hF0 u1
    refine wp_seq (s_wsc' (x := ⟨#[44, 85, 82, 73, 61, 34]⟩) (h0 := hF1.p) (_ht := by decide) (hsz := by rw [hF1.size]; decide) (n := n) (hE := hE1) (hn := by omega) (k' := 6) (hx' := by decide) (hK := fun a2 w2 u2 hE2 => (?_ : Code.wp _ _ _ _ _)))
    have hF2 := hF1.up u2 (by decide)
    have U2 := U1.trans u2 (by decide)
    clear hE1 hF1 u2
    refine wp_seq (s_wsp2' (x := k.uri) (hf := (fun _ _ => by kernel_rfl)) (hL := (fun _ => by kernel_rfl)) (hf2 := (fun _ _ => by kernel_rfl)) (hL2 := (fun _ => by kernel_rfl)) (hr := hF2.p) (hc := (hE2.cell 21 (by decide))) (hc2 := ((hE2.blk hk hkb (by decide)).cell 1)) (hv := rfl) (hrt := by decide) (hB := by kernel_rfl) (h0 := hF2.p) (_ht := by decide) (hsz := by rw [hF2.size]; decide) (n := n + 6) (hE := hE2) (hn := by omega) (k' := 40) (hx' := hkO.uri) (hK := fun a3 w3 u3 hE3 => (?_ : Code.wp _ _ _ _ _)))
    have hF3 := hF2.up u3 (by decide)
    have U3 := U2.trans u3 (by decide)
    clear hE2 hF2 u3
    refine wp_seq (s_wrc' (x := 34) (hx := by decide) (h0 := hF3.p) (_ht := by decide) (hsz := by rw [hF3.size]; decide) (n := n + 6 + 40) (hE := hE3) (hn := by omega) (k' := 1) (hx' := by decide) (hK := fun a4 w4 u4 hE4 => (?_ : Code.wp _ _ _ _ _)))
    have hF4 := hF3.up u4 (by decide)
    have U4 := U3.trans u4 (by decide)
    clear hE3 hF3 u4
    refine wp_seq (if_14 (hk := hk) (hkb := hkb) (hkO := hkO) (hF0 := hF4) (n := n + 6 + 40 + 1) (hE0 := hE4) (hn := by omega) (hK := fun a5 w5 u5 hE5 => (?_ : Code.wp _ _ _ _ _)))
    have hF5 := hF4.up u5 (by decide)
    have U5 := U4.trans u5 (by decide)
    clear hE4 hF4 u5
    refine wp_seq (if_17 (hk := hk) (hkb := hkb) (hkO := hkO) (hF0 := hF5) (n := n + 6 + 40 + 1 + 44) (hE0 := hE5) (hn := by omega) (hK := fun a6 w6 u6 hE6 => (?_ : Code.wp _ _ _ _ _)))
    have hF6 := hF5.up u6 (by decide)
    have U6 := U5.trans u6 (by decide)
    clear hE5 hF5 u6
    refine if_21 (hk := hk) (hkb := hkb) (hkO := hkO) (hF0 := hF6) (n := n + 6 + 40 + 1 + 44 + 53) (hE0 := hE6) (hn := by omega) (hK := fun a7 w7 u7 hE7 => ?_)
    have hF7 := hF6.up u7 (by decide)
    have U7 := U6.trans u7 (by decide)
    clear hE6 hF6 u7
    exact hK _ _ (U7.down (by decide)) (hE7.to (by unfold tx_10; exact (if_pos hqt).symm) (by omega))
  · exact wp_skip (hK _ _ u1 (hE0.to (by unfold tx_10; exact (if_neg (by rw [hqt]; decide)).symm) (by omega)))
def tb_6 (k : KeyD) (l : List UInt8) : List UInt8 := ((tx_10 k (((l ++ [35, 69, 88, 84, 45, 88, 45, 75, 69, 89, 58]) ++ [77, 69, 84, 72, 79, 68, 61]) ++ k.me.data.toList)) ++ [10])
set_option maxRecDepth 100000 in
theorem bd_6 (hF0 : Fr b a0) (hk : Blk w0 kb 101 (keyC k)) (hkb : kb ≠ b) (hkO : k.Ok) (hn : n + 264 ≤ 1000000) (hE0 : EL B b (plR { d with kp := some kb }) w0 n l w) (hK : ∀ a' w', Up 40 a0 a' → EL B b (plR { d with kp := some kb }) w0 (n + 264) (tb_6 k l) w' → Q .normal a' w') :
    (cat [1, 1, 1, 1, 1, 0, 1, 0] encB).wp Tryz.prog Q a0 w := by
  change Code.wp _ (Code.seq _ _) _ _ _
  refine wp_seq (s_wsc' (x := ⟨#[35, 69, 88, 84, 45, 88, 45, 75, 69, 89, 58]⟩) (h0 := hF0.p) (_ht := by decide) (hsz := by rw [hF0.size]; decide) (n := n) (hE := hE0) (hn := by omega) (k' := 11) (hx' := by decide) (hK := fun a1 w1 u1 hE1 => (?_ : Code.wp _ _ _ _ _)))
  have hF1 := hF0.up u1 (by decide)
  have U1 := u1
  clear hE0 hF0 u1
  refine wp_seq (s_wsc' (x := ⟨#[77, 69, 84, 72, 79, 68, 61]⟩) (h0 := hF1.p) (_ht := by decide) (hsz := by rw [hF1.size]; decide) (n := n + 11) (hE := hE1) (hn := by omega) (k' := 7) (hx' := by decide) (hK := fun a2 w2 u2 hE2 => (?_ : Code.wp _ _ _ _ _)))
  have hF2 := hF1.up u2 (by decide)
  have U2 := U1.trans u2 (by decide)
  clear hE1 hF1 u2
  refine wp_seq (s_wsp2' (x := k.me) (hf := (fun _ _ => by kernel_rfl)) (hL := (fun _ => by kernel_rfl)) (hf2 := (fun _ _ => by kernel_rfl)) (hL2 := (fun _ => by kernel_rfl)) (hr := hF2.p) (hc := (hE2.cell 21 (by decide))) (hc2 := ((hE2.blk hk hkb (by decide)).cell 0)) (hv := rfl) (hrt := by decide) (hB := by kernel_rfl) (h0 := hF2.p) (_ht := by decide) (hsz := by rw [hF2.size]; decide) (n := n + 11 + 7) (hE := hE2) (hn := by omega) (k' := 40) (hx' := hkO.me) (hK := fun a3 w3 u3 hE3 => (?_ : Code.wp _ _ _ _ _)))
  have hF3 := hF2.up u3 (by decide)
  have U3 := U2.trans u3 (by decide)
  clear hE2 hF2 u3
  refine wp_seq (if_10 (hk := hk) (hkb := hkb) (hkO := hkO) (hF0 := hF3) (n := n + 11 + 7 + 40) (hE0 := hE3) (hn := by omega) (hK := fun a4 w4 u4 hE4 => (?_ : Code.wp _ _ _ _ _)))
  have hF4 := hF3.up u4 (by decide)
  have U4 := U3.trans u4 (by decide)
  clear hE3 hF3 u4
  refine s_wrc' (x := 10) (hx := by decide) (h0 := hF4.p) (_ht := by decide) (hsz := by rw [hF4.size]; decide) (n := n + 11 + 7 + 40 + 205) (hE := hE4) (hn := by omega) (k' := 1) (hx' := by decide) (hK := fun a5 w5 u5 hE5 => ?_)
  have hF5 := hF4.up u5 (by decide)
  have U5 := U4.trans u5 (by decide)
  clear hE4 hF4 u5
  exact hK _ _ (U5.down (by decide)) (hE5.to rfl (by omega))
def tx_31 (m : MapD) (l : List UInt8) : List UInt8 := if decide (0 < (m.li : Int)) = true then ((((l ++ [44, 66, 89, 84, 69, 82, 65, 78, 71, 69, 61]) ++ Lib.decDigits m.li) ++ [64]) ++ Lib.decDigits m.off) else l
set_option maxRecDepth 100000 in
theorem if_31 (hF0 : Fr b a0) (hm : Blk w0 mb 103 (mapC m)) (hmb : mb ≠ b) (hmO : m.Ok) (htab : TabP w0) (hgt : 7 < B) (hn : n + 50 ≤ 1000000) (hE0 : EL B b (plR { d with mp := some mb }) w0 n l w) (hK : ∀ a' w', Up 195 a0 a' → EL B b (plR { d with mp := some mb }) w0 (n + 50) (tx_31 m l) w' → Q .normal a' w') :
    (cat [1, 1, 1, 1, 1, 1, 0, 1, 0, 1, 1, 1, 1, 0] encB).wp Tryz.prog Q a0 w := by
  change Code.wp _ (Code.seq (Code.region _ _ _) (Code.cond _ _ _)) _ _ _
  refine t_bin2 (hf := (fun _ _ => by kernel_rfl)) (hL := (fun _ => by kernel_rfl)) (hf2 := (fun _ _ => by kernel_rfl)) (hL2 := (fun _ => by kernel_rfl)) (hr := hF0.p) (hc := (hE0.cell 22 (by decide))) (hc2 := ((hE0.blk hm hmb (by decide)).cell 1)) (hb := (fun w => bo_gtr _ w)) (hsz := by rw [hF0.size]; decide) (q := decide (0 < (m.li : Int))) (hT := fun hqt a1 u1 => ?_) (hN := fun hqt a1 u1 => ?_)
  · have hF1 := hF0.up u1 (by decide)
    have U1 := u1
    have hE1 := hE0
    clear hE0 hF0 u1
    refine wp_seq (s_wsc' (x := ⟨#[44, 66, 89, 84, 69, 82, 65, 78, 71, 69, 61]⟩) (h0 := hF1.p) (_ht := by decide) (hsz := by rw [hF1.size]; decide) (n := n) (hE := hE1) (hn := by omega) (k' := 11) (hx' := by decide) (hK := fun a2 w2 u2 hE2 => (?_ : Code.wp _ _ _ _ _)))
    have hF2 := hF1.up u2 (by decide)
    have U2 := U1.trans u2 (by decide)
    clear hE1 hF1 u2
    refine wp_seq (s_wsf2_1' (x := bs (Lib.decDigits m.li)) (hg := fun _ _ => by kernel_rfl) (hf := (fun _ _ => by kernel_rfl)) (hL := (fun _ => by kernel_rfl)) (hf2 := (fun _ _ => by kernel_rfl)) (hL2 := (fun _ => by kernel_rfl)) (hr := hF2.p) (hc := (fun l w hEE => (hEE.cell 22 (by decide)))) (hc2 := (fun l w hEE => (Blk.cell (hEE.block hm hmb (by decide)) 1))) (hrt := by decide) (hB := by kernel_rfl) (hC := fi_any _ hmO.li htab hgt) (h0 := hF2.p) (_ht := by decide) (hsz := by rw [hF2.size]; decide) (n := n + 11) (hE := hE2) (hn := by omega) (k' := 19) (hx' := dd_size (Nat.lt_of_lt_of_le hmO.li (by decide)) (by decide)) (hK := fun a3 w3 u3 hE3 => (?_ : Code.wp _ _ _ _ _)))
    have hF3 := hF2.up u3 (by decide)
    have U3 := U2.trans u3 (by decide)
    clear hE2 hF2 u3
    refine wp_seq (s_wrc' (x := 64) (hx := by decide) (h0 := hF3.p) (_ht := by decide) (hsz := by rw [hF3.size]; decide) (n := n + 11 + 19) (hE := hE3) (hn := by omega) (k' := 1) (hx' := by decide) (hK := fun a4 w4 u4 hE4 => (?_ : Code.wp _ _ _ _ _)))
    have hF4 := hF3.up u4 (by decide)
    have U4 := U3.trans u4 (by decide)
    clear hE3 hF3 u4
    refine s_wsf2_1' (x := bs (Lib.decDigits m.off)) (hg := fun _ _ => by kernel_rfl) (hf := (fun _ _ => by kernel_rfl)) (hL := (fun _ => by kernel_rfl)) (hf2 := (fun _ _ => by kernel_rfl)) (hL2 := (fun _ => by kernel_rfl)) (hr := hF4.p) (hc := (fun l w hEE => (hEE.cell 22 (by decide)))) (hc2 := (fun l w hEE => (Blk.cell (hEE.block hm hmb (by decide)) 2))) (hrt := by decide) (hB := by kernel_rfl) (hC := fi_any _ hmO.off htab hgt) (h0 := hF4.p) (_ht := by decide) (hsz := by rw [hF4.size]; decide) (n := n + 11 + 19 + 1) (hE := hE4) (hn := by omega) (k' := 19) (hx' := dd_size (Nat.lt_of_lt_of_le hmO.off (by decide)) (by decide)) (hK := fun a5 w5 u5 hE5 => ?_)
    have hF5 := hF4.up u5 (by decide)
    have U5 := U4.trans u5 (by decide)
    clear hE4 hF4 u5
    exact hK _ _ (U5.down (by decide)) (hE5.to (by unfold tx_31; exact (if_pos hqt).symm) (by omega))
  · exact wp_skip (hK _ _ u1 (hE0.to (by unfold tx_31; exact (if_neg (by rw [hqt]; decide)).symm) (by omega)))
def tb_26 (m : MapD) (l : List UInt8) : List UInt8 := ((tx_31 m ((((l ++ [35, 69, 88, 84, 45, 88, 45, 77, 65, 80, 58]) ++ [85, 82, 73, 61, 34]) ++ m.uri.data.toList) ++ [34])) ++ [10])
set_option maxRecDepth 100000 in
theorem bd_26 (hF0 : Fr b a0) (hm : Blk w0 mb 103 (mapC m)) (hmb : mb ≠ b) (hmO : m.Ok) (htab : TabP w0) (hgt : 7 < B) (hn : n + 108 ≤ 1000000) (hE0 : EL B b (plR { d with mp := some mb }) w0 n l w) (hK : ∀ a' w', Up 172 a0 a' → EL B b (plR { d with mp := some mb }) w0 (n + 108) (tb_26 m l) w' → Q .normal a' w') :
    (cat [1, 1, 1, 1, 1, 1, 0, 1, 0] encB).wp Tryz.prog Q a0 w := by
  change Code.wp _ (Code.seq _ _) _ _ _
  refine wp_seq (s_wsc' (x := ⟨#[35, 69, 88, 84, 45, 88, 45, 77, 65, 80, 58]⟩) (h0 := hF0.p) (_ht := by decide) (hsz := by rw [hF0.size]; decide) (n := n) (hE := hE0) (hn := by omega) (k' := 11) (hx' := by decide) (hK := fun a1 w1 u1 hE1 => (?_ : Code.wp _ _ _ _ _)))
  have hF1 := hF0.up u1 (by decide)
  have U1 := u1
  clear hE0 hF0 u1
  refine wp_seq (s_wsc' (x := ⟨#[85, 82, 73, 61, 34]⟩) (h0 := hF1.p) (_ht := by decide) (hsz := by rw [hF1.size]; decide) (n := n + 11) (hE := hE1) (hn := by omega) (k' := 5) (hx' := by decide) (hK := fun a2 w2 u2 hE2 => (?_ : Code.wp _ _ _ _ _)))
  have hF2 := hF1.up u2 (by decide)
  have U2 := U1.trans u2 (by decide)
  clear hE1 hF1 u2
  refine wp_seq (s_wsp2' (x := m.uri) (hf := (fun _ _ => by kernel_rfl)) (hL := (fun _ => by kernel_rfl)) (hf2 := (fun _ _ => by kernel_rfl)) (hL2 := (fun _ => by kernel_rfl)) (hr := hF2.p) (hc := (hE2.cell 22 (by decide))) (hc2 := ((hE2.blk hm hmb (by decide)).cell 0)) (hv := rfl) (hrt := by decide) (hB := by kernel_rfl) (h0 := hF2.p) (_ht := by decide) (hsz := by rw [hF2.size]; decide) (n := n + 11 + 5) (hE := hE2) (hn := by omega) (k' := 40) (hx' := hmO.uri) (hK := fun a3 w3 u3 hE3 => (?_ : Code.wp _ _ _ _ _)))
  have hF3 := hF2.up u3 (by decide)
  have U3 := U2.trans u3 (by decide)
  clear hE2 hF2 u3
  refine wp_seq (s_wrc' (x := 34) (hx := by decide) (h0 := hF3.p) (_ht := by decide) (hsz := by rw [hF3.size]; decide) (n := n + 11 + 5 + 40) (hE := hE3) (hn := by omega) (k' := 1) (hx' := by decide) (hK := fun a4 w4 u4 hE4 => (?_ : Code.wp _ _ _ _ _)))
  have hF4 := hF3.up u4 (by decide)
  have U4 := U3.trans u4 (by decide)
  clear hE3 hF3 u4
  refine wp_seq (if_31 (hm := hm) (hmb := hmb) (hmO := hmO) (htab := htab) (hgt := hgt) (hF0 := hF4) (n := n + 11 + 5 + 40 + 1) (hE0 := hE4) (hn := by omega) (hK := fun a5 w5 u5 hE5 => (?_ : Code.wp _ _ _ _ _)))
  have hF5 := hF4.up u5 (by decide)
  have U5 := U4.trans u5 (by decide)
  clear hE4 hF4 u5
  refine s_wrc' (x := 10) (hx := by decide) (h0 := hF5.p) (_ht := by decide) (hsz := by rw [hF5.size]; decide) (n := n + 11 + 5 + 40 + 1 + 50) (hE := hE5) (hn := by omega) (k' := 1) (hx' := by decide) (hK := fun a6 w6 u6 hE6 => ?_)
  have hF6 := hF5.up u6 (by decide)
  have U6 := U5.trans u6 (by decide)
  clear hE5 hF5 u6
  exact hK _ _ (U6.down (by decide)) (hE6.to rfl (by omega))
def tx_61 (d : PlD) (l : List UInt8) : List UInt8 := if d.ifr = true then (l ++ [35, 69, 88, 84, 45, 88, 45, 73, 45, 70, 82, 65, 77, 69, 83, 45, 79, 78, 76, 89, 10]) else l
set_option maxRecDepth 100000 in
theorem if_61 (hF0 : Fr b a0) (hn : n + 21 ≤ 1000000) (hE0 : EL B b (plR d) w0 n l w) (hK : ∀ a' w', Up 356 a0 a' → EL B b (plR d) w0 (n + 21) (tx_61 d l) w' → Q .normal a' w') :
    (cat [1, 1, 1, 1, 1, 1, 1, 1, 1, 1, 1, 1, 1, 1, 1, 1, 0] encB).wp Tryz.prog Q a0 w := by
  change Code.wp _ (Code.seq (Code.region _ _ _) (Code.cond _ _ _)) _ _ _
  refine t_val (hf := (fun _ _ => by kernel_rfl)) (hL := (fun _ => by kernel_rfl)) (hr := hF0.p) (hc := (hE0.cell 4 (by decide))) (hv := rfl) (hsz := by rw [hF0.size]; decide) (q := d.ifr) (hT := fun hqt a1 u1 => ?_) (hN := fun hqt a1 u1 => ?_)
  · have hF1 := hF0.up u1 (by decide)
    have U1 := u1
    have hE1 := hE0
    clear hE0 hF0 u1
    refine s_wsc' (x := ⟨#[35, 69, 88, 84, 45, 88, 45, 73, 45, 70, 82, 65, 77, 69, 83, 45, 79, 78, 76, 89, 10]⟩) (h0 := hF1.p) (_ht := by decide) (hsz := by rw [hF1.size]; decide) (n := n) (hE := hE1) (hn := by omega) (k' := 21) (hx' := by decide) (hK := fun a2 w2 u2 hE2 => ?_)
    have hF2 := hF1.up u2 (by decide)
    have U2 := U1.trans u2 (by decide)
    clear hE1 hF1 u2
    exact hK _ _ (U2.down (by decide)) (hE2.to (by unfold tx_61; exact (if_pos hqt).symm) (by omega))
  · exact wp_skip (hK _ _ u1 (hE0.to (by unfold tx_61; exact (if_neg (by rw [hqt]; decide)).symm) (by omega)))
def tx_120 (k : KeyD) (l : List UInt8) : List UInt8 := if strNe k.iv ⟨#[]⟩ = true then ((l ++ [44, 73, 86, 61]) ++ k.iv.data.toList) else l
set_option maxRecDepth 100000 in
theorem if_120 (hF0 : Fr b a0) (hq : Blk w0 q 96 (segC num s (some kb) mp)) (hqb : q ≠ b) (hsO : s.Ok) (h3_0 : a0.tmps.getD 3 undef = pt q) (hk : Blk w0 kb 101 (keyC k)) (hkb : kb ≠ b) (hkO : k.Ok) (hn : n + 44 ≤ 1000000) (hE0 : EL B b (plR d) w0 n l w) (hK : ∀ a' w', Up 694 a0 a' → EL B b (plR d) w0 (n + 44) (tx_120 k l) w' → Q .normal a' w') :
    (cat [1, 1, 1, 1, 1, 1, 1, 1, 1, 1, 1, 1, 1, 1, 1, 1, 1, 1, 1, 1, 1, 0, 1, 0, 0, 1, 0, 0, 1, 1, 1, 1, 1, 0, 1, 0, 1, 1, 1, 0, 1, 0, 1, 1, 1, 0] encB).wp Tryz.prog Q a0 w := by
  change Code.wp _ (Code.seq (Code.region _ _ _) (Code.cond _ _ _)) _ _ _
  refine t_bin2 (hf := (fun _ _ => by kernel_rfl)) (hL := (fun _ => by kernel_rfl)) (hf2 := (fun _ _ => by kernel_rfl)) (hL2 := (fun _ => by kernel_rfl)) (hr := h3_0) (hc := ((hE0.blk hq hqb (by decide)).cell 6)) (hc2 := ((hE0.blk hk hkb (by decide)).cell 2)) (hb := (fun w => bo_strne _ _ w)) (hsz := by rw [hF0.size]; decide) (q := strNe k.iv ⟨#[]⟩) (hT := fun hqt a1 u1 => ?_) (hN := fun hqt a1 u1 => ?_)
  · have hF1 := hF0.up u1 (by decide)
    have h3_1 := u1.var 3 (by decide) h3_0
    have U1 := u1
    have hE1 := hE0
    clear hE0 hF0 u1 h3_0
    refine wp_seq (s_wsc' (x := ⟨#[44, 73, 86, 61]⟩) (h0 := hF1.p) (_ht := by decide) (hsz := by rw [hF1.size]; decide) (n := n) (hE := hE1) (hn := by omega) (k' := 4) (hx' := by decide) (hK := fun a2 w2 u2 hE2 => (?_ : Code.wp _ _ _ _ _)))
    have hF2 := hF1.up u2 (by decide)
    have h3_2 := u2.var 3 (by decide) h3_1
    have U2 := U1.trans u2 (by decide)
    clear hE1 hF1 u2 h3_1
    refine s_wsp2' (x := k.iv) (hf := (fun _ _ => by kernel_rfl)) (hL := (fun _ => by kernel_rfl)) (hf2 := (fun _ _ => by kernel_rfl)) (hL2 := (fun _ => by kernel_rfl)) (hr := h3_2) (hc := ((hE2.blk hq hqb (by decide)).cell 6)) (hc2 := ((hE2.blk hk hkb (by decide)).cell 2)) (hv := rfl) (hrt := by decide) (hB := by kernel_rfl) (h0 := hF2.p) (_ht := by decide) (hsz := by rw [hF2.size]; decide) (n := n + 4) (hE := hE2) (hn := by omega) (k' := 40) (hx' := hkO.iv) (hK := fun a3 w3 u3 hE3 => ?_)
    have hF3 := hF2.up u3 (by decide)
    have h3_3 := u3.var 3 (by decide) h3_2
    have U3 := U2.trans u3 (by decide)
    clear hE2 hF2 u3 h3_2
    exact hK _ _ (U3.down (by decide)) (hE3.to (by unfold tx_120; exact (if_pos hqt).symm) (by omega))
  · exact wp_skip (hK _ _ u1 (hE0.to (by unfold tx_120; exact (if_neg (by rw [hqt]; decide)).symm) (by omega)))
def tx_123 (k : KeyD) (l : List UInt8) : List UInt8 := if strNe k.fo ⟨#[]⟩ = true then (((l ++ [44, 75, 69, 89, 70, 79, 82, 77, 65, 84, 61, 34]) ++ k.fo.data.toList) ++ [34]) else l
set_option maxRecDepth 100000 in
theorem if_123 (hF0 : Fr b a0) (hq : Blk w0 q 96 (segC num s (some kb) mp)) (hqb : q ≠ b) (hsO : s.Ok) (h3_0 : a0.tmps.getD 3 undef = pt q) (hk : Blk w0 kb 101 (keyC k)) (hkb : kb ≠ b) (hkO : k.Ok) (hn : n + 53 ≤ 1000000) (hE0 : EL B b (plR d) w0 n l w) (hK : ∀ a' w', Up 717 a0 a' → EL B b (plR d) w0 (n + 53) (tx_123 k l) w' → Q .normal a' w') :
    (cat [1, 1, 1, 1, 1, 1, 1, 1, 1, 1, 1, 1, 1, 1, 1, 1, 1, 1, 1, 1, 1, 0, 1, 0, 0, 1, 0, 0, 1, 1, 1, 1, 1, 0, 1, 0, 1, 1, 1, 0, 1, 0, 1, 1, 1, 1, 0] encB).wp Tryz.prog Q a0 w := by
  change Code.wp _ (Code.seq (Code.region _ _ _) (Code.cond _ _ _)) _ _ _
  refine t_bin2 (hf := (fun _ _ => by kernel_rfl)) (hL := (fun _ => by kernel_rfl)) (hf2 := (fun _ _ => by kernel_rfl)) (hL2 := (fun _ => by kernel_rfl)) (hr := h3_0) (hc := ((hE0.blk hq hqb (by decide)).cell 6)) (hc2 := ((hE0.blk hk hkb (by decide)).cell 3)) (hb := (fun w => bo_strne _ _ w)) (hsz := by rw [hF0.size]; decide) (q := strNe k.fo ⟨#[]⟩) (hT := fun hqt a1 u1 => ?_) (hN := fun hqt a1 u1 => ?_)
  · have hF1 := hF0.up u1 (by decide)
    have h3_1 := u1.var 3 (by decide) h3_0
    have U1 := u1
    have hE1 := hE0
    clear hE0 hF0 u1 h3_0
    refine wp_seq (s_wsc' (x := ⟨#[44, 75, 69, 89, 70, 79, 82, 77, 65, 84, 61, 34]⟩) (h0 := hF1.p) (_ht := by decide) (hsz := by rw [hF1.size]; decide) (n := n) (hE := hE1) (hn := by omega) (k' := 12) (hx' := by decide) (hK := fun a2 w2 u2 hE2 => (?_ : Code.wp _ _ _ _ _)))
    have hF2 := hF1.up u2 (by decide)
    have h3_2 := u2.var 3 (by decide) h3_1
    have U2 := U1.trans u2 (by decide)
    clear hE1 hF1 u2 h3_1
    refine wp_seq (s_wsp2' (x := k.fo) (hf := (fun _ _ => by kernel_rfl)) (hL := (fun _ => by kernel_rfl)) (hf2 := (fun _ _ => by kernel_rfl)) (hL2 := (fun _ => by kernel_rfl)) (hr := h3_2) (hc := ((hE2.blk hq hqb (by decide)).cell 6)) (hc2 := ((hE2.blk hk hkb (by decide)).cell 3)) (hv := rfl) (hrt := by decide) (hB := by kernel_rfl) (h0 := hF2.p) (_ht := by decide) (hsz := by rw [hF2.size]; decide) (n := n + 12) (hE := hE2) (hn := by omega) (k' := 40) (hx' := hkO.fo) (hK := fun a3 w3 u3 hE3 => (?_ : Code.wp _ _ _ _ _)))
    have hF3 := hF2.up u3 (by decide)
    have h3_3 := u3.var 3 (by decide) h3_2
    have U3 := U2.trans u3 (by decide)
    clear hE2 hF2 u3 h3_2
    refine s_wrc' (x := 34) (hx := by decide) (h0 := hF3.p) (_ht := by decide) (hsz := by rw [hF3.size]; decide) (n := n + 12 + 40) (hE := hE3) (hn := by omega) (k' := 1) (hx' := by decide) (hK := fun a4 w4 u4 hE4 => ?_)
    have hF4 := hF3.up u4 (by decide)
    have h3_4 := u4.var 3 (by decide) h3_3
    have U4 := U3.trans u4 (by decide)
    clear hE3 hF3 u4 h3_3
    exact hK _ _ (U4.down (by decide)) (hE4.to (by unfold tx_123; exact (if_pos hqt).symm) (by omega))
  · exact wp_skip (hK _ _ u1 (hE0.to (by unfold tx_123; exact (if_neg (by rw [hqt]; decide)).symm) (by omega)))
def tx_127 (k : KeyD) (l : List UInt8) : List UInt8 := if strNe k.ve ⟨#[]⟩ = true then (((l ++ [44, 75, 69, 89, 70, 79, 82, 77, 65, 84, 86, 69, 82, 83, 73, 79, 78, 83, 61, 34]) ++ k.ve.data.toList) ++ [34]) else l
set_option maxRecDepth 100000 in
theorem if_127 (hF0 : Fr b a0) (hq : Blk w0 q 96 (segC num s (some kb) mp)) (hqb : q ≠ b) (hsO : s.Ok) (h3_0 : a0.tmps.getD 3 undef = pt q) (hk : Blk w0 kb 101 (keyC k)) (hkb : kb ≠ b) (hkO : k.Ok) (hn : n + 61 ≤ 1000000) (hE0 : EL B b (plR d) w0 n l w) (hK : ∀ a' w', Up 744 a0 a' → EL B b (plR d) w0 (n + 61) (tx_127 k l) w' → Q .normal a' w') :
    (cat [1, 1, 1, 1, 1, 1, 1, 1, 1, 1, 1, 1, 1, 1, 1, 1, 1, 1, 1, 1, 1, 0, 1, 0, 0, 1, 0, 0, 1, 1, 1, 1, 1, 0, 1, 0, 1, 1, 1, 0, 1, 0, 1, 1, 1, 1, 1] encB).wp Tryz.prog Q a0 w := by
  change Code.wp _ (Code.seq (Code.region _ _ _) (Code.cond _ _ _)) _ _ _
  refine t_bin2 (hf := (fun _ _ => by kernel_rfl)) (hL := (fun _ => by kernel_rfl)) (hf2 := (fun _ _ => by kernel_rfl)) (hL2 := (fun _ => by kernel_rfl)) (hr := h3_0) (hc := ((hE0.blk hq hqb (by decide)).cell 6)) (hc2 := ((hE0.blk hk hkb (by decide)).cell 4)) (hb := (fun w => bo_strne _ _ w)) (hsz := by rw [hF0.size]; decide) (q := strNe k.ve ⟨#[]⟩) (hT := fun hqt a1 u1 => ?_) (hN := fun hqt a1 u1 => ?_)
  · have hF1 := hF0.up u1 (by decide)
    have h3_1 := u1.var 3 (by decide) h3_0
    have U1 := u1
    have hE1 := hE0
    clear hE0 hF0 u1 h3_0
    refine wp_seq (s_wsc' (x := ⟨#[44, 75, 69, 89, 70, 79, 82, 77, 65, 84, 86, 69, 82, 83, 73, 79, 78, 83, 61, 34]⟩) (h0 := hF1.p) (_ht := by decide) (hsz := by rw [hF1.size]; decide) (n := n) (hE := hE1) (hn := by omega) (k' := 20) (hx' := by decide) (hK := fun a2 w2 u2 hE2 => (?_ : Code.wp _ _ _ _ _)))
    have hF2 := hF1.up u2 (by decide)
    have h3_2 := u2.var 3 (by decide) h3_1
    have U2 := U1.trans u2 (by decide)
    clear hE1 hF1 u2 h3_1
    refine wp_seq (s_wsp2' (x := k.ve) (hf := (fun _ _ => by kernel_rfl)) (hL := (fun _ => by kernel_rfl)) (hf2 := (fun _ _ => by kernel_rfl)) (hL2 := (fun _ => by kernel_rfl)) (hr := h3_2) (hc := ((hE2.blk hq hqb (by decide)).cell 6)) (hc2 := ((hE2.blk hk hkb (by decide)).cell 4)) (hv := rfl) (hrt := by decide) (hB := by kernel_rfl) (h0 := hF2.p) (_ht := by decide) (hsz := by rw [hF2.size]; decide) (n := n + 20) (hE := hE2) (hn := by omega) (k' := 40) (hx' := hkO.ve) (hK := fun a3 w3 u3 hE3 => (?_ : Code.wp _ _ _ _ _)))
    have hF3 := hF2.up u3 (by decide)
    have h3_3 := u3.var 3 (by decide) h3_2
    have U3 := U2.trans u3 (by decide)
    clear hE2 hF2 u3 h3_2
    refine s_wrc' (x := 34) (hx := by decide) (h0 := hF3.p) (_ht := by decide) (hsz := by rw [hF3.size]; decide) (n := n + 20 + 40) (hE := hE3) (hn := by omega) (k' := 1) (hx' := by decide) (hK := fun a4 w4 u4 hE4 => ?_)
    have hF4 := hF3.up u4 (by decide)
    have h3_4 := u4.var 3 (by decide) h3_3
    have U4 := U3.trans u4 (by decide)
    clear hE3 hF3 u4 h3_3
    exact hK _ _ (U4.down (by decide)) (hE4.to (by unfold tx_127; exact (if_pos hqt).symm) (by omega))
  · exact wp_skip (hK _ _ u1 (hE0.to (by unfold tx_127; exact (if_neg (by rw [hqt]; decide)).symm) (by omega)))
def tx_116 (k : KeyD) (l : List UInt8) : List UInt8 := if strNe k.me ⟨#[78, 79, 78, 69]⟩ = true then (tx_127 k (tx_123 k (tx_120 k (((l ++ [44, 85, 82, 73, 61, 34]) ++ k.uri.data.toList) ++ [34])))) else l
set_option maxRecDepth 100000 in
theorem if_116 (hF0 : Fr b a0) (hq : Blk w0 q 96 (segC num s (some kb) mp)) (hqb : q ≠ b) (hsO : s.Ok) (h3_0 : a0.tmps.getD 3 undef = pt q) (hk : Blk w0 kb 101 (keyC k)) (hkb : kb ≠ b) (hkO : k.Ok) (hn : n + 205 ≤ 1000000) (hE0 : EL B b (plR d) w0 n l w) (hK : ∀ a' w', Up 667 a0 a' → EL B b (plR d) w0 (n + 205) (tx_116 k l) w' → Q .normal a' w') :
    (cat [1, 1, 1, 1, 1, 1, 1, 1, 1, 1, 1, 1, 1, 1, 1, 1, 1, 1, 1, 1, 1, 0, 1, 0, 0, 1, 0, 0, 1, 1, 1, 1, 1, 0, 1, 0, 1, 1, 1, 0] encB).wp Tryz.prog Q a0 w := by
  change Code.wp _ (Code.seq (Code.region _ _ _) (Code.cond _ _ _)) _ _ _
  refine t_bin2 (hf := (fun _ _ => by kernel_rfl)) (hL := (fun _ => by kernel_rfl)) (hf2 := (fun _ _ => by kernel_rfl)) (hL2 := (fun _ => by kernel_rfl)) (hr := h3_0) (hc := ((hE0.blk hq hqb (by decide)).cell 6)) (hc2 := ((hE0.blk hk hkb (by decide)).cell 0)) (hb := (fun w => bo_strne _ _ w)) (hsz := by rw [hF0.size]; decide) (q := strNe k.me ⟨#[78, 79, 78, 69]⟩) (hT := fun hqt a1 u1 => ?_) (hN := fun hqt a1 u1 => ?_)
  · have hF1 := hF0.up u1 (by decide)
    have h3_1 := u1.var 3 (by decide) h3_0
    have U1 := u1
    have hE1 := hE0
    clear hE0 hF0 u1 h3_0
    refine wp_seq (s_wsc' (x := ⟨#[44, 85, 82, 73, 61, 34]⟩) (h0 := hF1.p) (_ht := by decide) (hsz := by rw [hF1.size]; decide) (n := n) (hE := hE1) (hn := by omega) (k' := 6) (hx' := by decide) (hK := fun a2 w2 u2 hE2 => (?_ : Code.wp _ _ _ _ _)))
    have hF2 := hF1.up u2 (by decide)
    have h3_2 := u2.var 3 (by decide) h3_1
    have U2 := U1.trans u2 (by decide)
    clear hE1 hF1 u2 h3_1
    refine wp_seq (s_wsp2' (x := k.uri) (hf := (fun _ _ => by kernel_rfl)) (hL := (fun _ => by kernel_rfl)) (hf2 := (fun _ _ => by kernel_rfl)) (hL2 := (fun _ => by kernel_rfl)) (hr := h3_2) (hc := ((hE2.blk hq hqb (by decide)).cell 6)) (hc2 := ((hE2.blk hk hkb (by decide)).cell 1)) (hv := rfl) (hrt := by decide) (hB := by kernel_rfl) (h0 := hF2.p) (_ht := by decide) (hsz := by rw [hF2.size]; decide) (n := n + 6) (hE := hE2) (hn := by omega) (k' := 40) (hx' := hkO.uri) (hK := fun a3 w3 u3 hE3 => (?_ : Code.wp _ _ _ _ _)))
    have hF3 := hF2.up u3 (by decide)
    have h3_3 := u3.var 3 (by decide) h3_2
    have U3 := U2.trans u3 (by decide)
    clear hE2 hF2 u3 h3_2
    refine wp_seq (s_wrc' (x := 34) (hx := by decide) (h0 := hF3.p) (_ht := by decide) (hsz := by rw [hF3.size]; decide) (n := n + 6 + 40) (hE := hE3) (hn := by omega) (k' := 1) (hx' := by decide) (hK := fun a4 w4 u4 hE4 => (?_ : Code.wp _ _ _ _ _)))
    have hF4 := hF3.up u4 (by decide)
    have h3_4 := u4.var 3 (by decide) h3_3
    have U4 := U3.trans u4 (by decide)
    clear hE3 hF3 u4 h3_3
    refine wp_seq (if_120 (hq := hq) (hqb := hqb) (hsO := hsO) (hk := hk) (hkb := hkb) (hkO := hkO) (hF0 := hF4) (h3_0 := h3_4) (n := n + 6 + 40 + 1) (hE0 := hE4) (hn := by omega) (hK := fun a5 w5 u5 hE5 => (?_ : Code.wp _ _ _ _ _)))
    have hF5 := hF4.up u5 (by decide)
    have h3_5 := u5.var 3 (by decide) h3_4
    have U5 := U4.trans u5 (by decide)
    clear hE4 hF4 u5 h3_4
    refine wp_seq (if_123 (hq := hq) (hqb := hqb) (hsO := hsO) (hk := hk) (hkb := hkb) (hkO := hkO) (hF0 := hF5) (h3_0 := h3_5) (n := n + 6 + 40 + 1 + 44) (hE0 := hE5) (hn := by omega) (hK := fun a6 w6 u6 hE6 => (?_ : Code.wp _ _ _ _ _)))
    have hF6 := hF5.up u6 (by decide)
    have h3_6 := u6.var 3 (by decide) h3_5
    have U6 := U5.trans u6 (by decide)
    clear hE5 hF5 u6 h3_5
    refine if_127 (hq := hq) (hqb := hqb) (hsO := hsO) (hk := hk) (hkb := hkb) (hkO := hkO) (hF0 := hF6) (h3_0 := h3_6) (n := n + 6 + 40 + 1 + 44 + 53) (hE0 := hE6) (hn := by omega) (hK := fun a7 w7 u7 hE7 => ?_)
    have hF7 := hF6.up u7 (by decide)
    have h3_7 := u7.var 3 (by decide) h3_6
    have U7 := U6.trans u7 (by decide)
    clear hE6 hF6 u7 h3_6
    exact hK _ _ (U7.down (by decide)) (hE7.to (by unfold tx_116; exact (if_pos hqt).symm) (by omega))
  · exact wp_skip (hK _ _ u1 (hE0.to (by unfold tx_116; exact (if_neg (by rw [hqt]; decide)).symm) (by omega)))
def tb_112 (k : KeyD) (l : List UInt8) : List UInt8 := ((tx_116 k (((l ++ [35, 69, 88, 84, 45, 88, 45, 75, 69, 89, 58]) ++ [77, 69, 84, 72, 79, 68, 61]) ++ k.me.data.toList)) ++ [10])
set_option maxRecDepth 100000 in
theorem bd_112 (hF0 : Fr b a0) (hq : Blk w0 q 96 (segC num s (some kb) mp)) (hqb : q ≠ b) (hsO : s.Ok) (h3_0 : a0.tmps.getD 3 undef = pt q) (hk : Blk w0 kb 101 (keyC k)) (hkb : kb ≠ b) (hkO : k.Ok) (hn : n + 264 ≤ 1000000) (hE0 : EL B b (plR d) w0 n l w) (hK : ∀ a' w', Up 648 a0 a' → EL B b (plR d) w0 (n + 264) (tb_112 k l) w' → Q .normal a' w') :
    (cat [1, 1, 1, 1, 1, 1, 1, 1, 1, 1, 1, 1, 1, 1, 1, 1, 1, 1, 1, 1, 1, 0, 1, 0, 0, 1, 0, 0, 1, 1, 1, 1, 1, 0, 1, 0] encB).wp Tryz.prog Q a0 w := by
  change Code.wp _ (Code.seq _ _) _ _ _
  refine wp_seq (s_wsc' (x := ⟨#[35, 69, 88, 84, 45, 88, 45, 75, 69, 89, 58]⟩) (h0 := hF0.p) (_ht := by decide) (hsz := by rw [hF0.size]; decide) (n := n) (hE := hE0) (hn := by omega) (k' := 11) (hx' := by decide) (hK := fun a1 w1 u1 hE1 => (?_ : Code.wp _ _ _ _ _)))
  have hF1 := hF0.up u1 (by decide)
  have h3_1 := u1.var 3 (by decide) h3_0
  have U1 := u1
  clear hE0 hF0 u1 h3_0
  refine wp_seq (s_wsc' (x := ⟨#[77, 69, 84, 72, 79, 68, 61]⟩) (h0 := hF1.p) (_ht := by decide) (hsz := by rw [hF1.size]; decide) (n := n + 11) (hE := hE1) (hn := by omega) (k' := 7) (hx' := by decide) (hK := fun a2 w2 u2 hE2 => (?_ : Code.wp _ _ _ _ _)))
  have hF2 := hF1.up u2 (by decide)
  have h3_2 := u2.var 3 (by decide) h3_1
  have U2 := U1.trans u2 (by decide)
  clear hE1 hF1 u2 h3_1
  refine wp_seq (s_wsp2' (x := k.me) (hf := (fun _ _ => by kernel_rfl)) (hL := (fun _ => by kernel_rfl)) (hf2 := (fun _ _ => by kernel_rfl)) (hL2 := (fun _ => by kernel_rfl)) (hr := h3_2) (hc := ((hE2.blk hq hqb (by decide)).cell 6)) (hc2 := ((hE2.blk hk hkb (by decide)).cell 0)) (hv := rfl) (hrt := by decide) (hB := by kernel_rfl) (h0 := hF2.p) (_ht := by decide) (hsz := by rw [hF2.size]; decide) (n := n + 11 + 7) (hE := hE2) (hn := by omega) (k' := 40) (hx' := hkO.me) (hK := fun a3 w3 u3 hE3 => (?_ : Code.wp _ _ _ _ _)))
  have hF3 := hF2.up u3 (by decide)
  have h3_3 := u3.var 3 (by decide) h3_2
  have U3 := U2.trans u3 (by decide)
  clear hE2 hF2 u3 h3_2
  refine wp_seq (if_116 (hq := hq) (hqb := hqb) (hsO := hsO) (hk := hk) (hkb := hkb) (hkO := hkO) (hF0 := hF3) (h3_0 := h3_3) (n := n + 11 + 7 + 40) (hE0 := hE3) (hn := by omega) (hK := fun a4 w4 u4 hE4 => (?_ : Code.wp _ _ _ _ _)))
  have hF4 := hF3.up u4 (by decide)
  have h3_4 := u4.var 3 (by decide) h3_3
  have U4 := U3.trans u4 (by decide)
  clear hE3 hF3 u4 h3_3
  refine s_wrc' (x := 10) (hx := by decide) (h0 := hF4.p) (_ht := by decide) (hsz := by rw [hF4.size]; decide) (n := n + 11 + 7 + 40 + 205) (hE := hE4) (hn := by omega) (k' := 1) (hx' := by decide) (hK := fun a5 w5 u5 hE5 => ?_)
  have hF5 := hF4.up u5 (by decide)
  have h3_5 := u5.var 3 (by decide) h3_4
  have U5 := U4.trans u5 (by decide)
  clear hE4 hF4 u5 h3_4
  exact hK _ _ (U5.down (by decide)) (hE5.to rfl (by omega))
def tx_139 (m : MapD) (l : List UInt8) : List UInt8 := if decide (0 < (m.li : Int)) = true then ((((l ++ [44, 66, 89, 84, 69, 82, 65, 78, 71, 69, 61]) ++ Lib.decDigits m.li) ++ [64]) ++ Lib.decDigits m.off) else l
set_option maxRecDepth 100000 in
theorem if_139 (hF0 : Fr b a0) (hq : Blk w0 q 96 (segC num s kp (some mb))) (hqb : q ≠ b) (hsO : s.Ok) (h3_0 : a0.tmps.getD 3 undef = pt q) (hm : Blk w0 mb 103 (mapC m)) (hmb : mb ≠ b) (hmO : m.Ok) (htab : TabP w0) (hgt : 7 < B) (hn : n + 50 ≤ 1000000) (hE0 : EL B b (plR d) w0 n l w) (hK : ∀ a' w', Up 818 a0 a' → EL B b (plR d) w0 (n + 50) (tx_139 m l) w' → Q .normal a' w') :
    (cat [1, 1, 1, 1, 1, 1, 1, 1, 1, 1, 1, 1, 1, 1, 1, 1, 1, 1, 1, 1, 1, 0, 1, 0, 0, 1, 0, 0, 1, 1, 1, 1, 1, 1, 1, 0, 1, 0, 1, 1, 1, 1, 0] encB).wp Tryz.prog Q a0 w := by
  change Code.wp _ (Code.seq (Code.region _ _ _) (Code.cond _ _ _)) _ _ _
  refine t_bin2 (hf := (fun _ _ => by kernel_rfl)) (hL := (fun _ => by kernel_rfl)) (hf2 := (fun _ _ => by kernel_rfl)) (hL2 := (fun _ => by kernel_rfl)) (hr := h3_0) (hc := ((hE0.blk hq hqb (by decide)).cell 7)) (hc2 := ((hE0.blk hm hmb (by decide)).cell 1)) (hb := (fun w => bo_gtr _ w)) (hsz := by rw [hF0.size]; decide) (q := decide (0 < (m.li : Int))) (hT := fun hqt a1 u1 => ?_) (hN := fun hqt a1 u1 => ?_)
  · have hF1 := hF0.up u1 (by decide)
    have h3_1 := u1.var 3 (by decide) h3_0
    have U1 := u1
    have hE1 := hE0
    clear hE0 hF0 u1 h3_0
    refine wp_seq (s_wsc' (x := ⟨#[44, 66, 89, 84, 69, 82, 65, 78, 71, 69, 61]⟩) (h0 := hF1.p) (_ht := by decide) (hsz := by rw [hF1.size]; decide) (n := n) (hE := hE1) (hn := by omega) (k' := 11) (hx' := by decide) (hK := fun a2 w2 u2 hE2 => (?_ : Code.wp _ _ _ _ _)))
    have hF2 := hF1.up u2 (by decide)
    have h3_2 := u2.var 3 (by decide) h3_1
    have U2 := U1.trans u2 (by decide)
    clear hE1 hF1 u2 h3_1
    refine wp_seq (s_wsf2_1' (x := bs (Lib.decDigits m.li)) (hg := fun _ _ => by kernel_rfl) (hf := (fun _ _ => by kernel_rfl)) (hL := (fun _ => by kernel_rfl)) (hf2 := (fun _ _ => by kernel_rfl)) (hL2 := (fun _ => by kernel_rfl)) (hr := h3_2) (hc := (fun l w hEE => (Blk.cell (hEE.block hq hqb (by decide)) 7))) (hc2 := (fun l w hEE => (Blk.cell (hEE.block hm hmb (by decide)) 1))) (hrt := by decide) (hB := by kernel_rfl) (hC := fi_any _ hmO.li htab hgt) (h0 := hF2.p) (_ht := by decide) (hsz := by rw [hF2.size]; decide) (n := n + 11) (hE := hE2) (hn := by omega) (k' := 19) (hx' := dd_size (Nat.lt_of_lt_of_le hmO.li (by decide)) (by decide)) (hK := fun a3 w3 u3 hE3 => (?_ : Code.wp _ _ _ _ _)))
    have hF3 := hF2.up u3 (by decide)
    have h3_3 := u3.var 3 (by decide) h3_2
    have U3 := U2.trans u3 (by decide)
    clear hE2 hF2 u3 h3_2
    refine wp_seq (s_wrc' (x := 64) (hx := by decide) (h0 := hF3.p) (_ht := by decide) (hsz := by rw [hF3.size]; decide) (n := n + 11 + 19) (hE := hE3) (hn := by omega) (k' := 1) (hx' := by decide) (hK := fun a4 w4 u4 hE4 => (?_ : Code.wp _ _ _ _ _)))
    have hF4 := hF3.up u4 (by decide)
    have h3_4 := u4.var 3 (by decide) h3_3
    have U4 := U3.trans u4 (by decide)
    clear hE3 hF3 u4 h3_3
    refine s_wsf2_1' (x := bs (Lib.decDigits m.off)) (hg := fun _ _ => by kernel_rfl) (hf := (fun _ _ => by kernel_rfl)) (hL := (fun _ => by kernel_rfl)) (hf2 := (fun _ _ => by kernel_rfl)) (hL2 := (fun _ => by kernel_rfl)) (hr := h3_4) (hc := (fun l w hEE => (Blk.cell (hEE.block hq hqb (by decide)) 7))) (hc2 := (fun l w hEE => (Blk.cell (hEE.block hm hmb (by decide)) 2))) (hrt := by decide) (hB := by kernel_rfl) (hC := fi_any _ hmO.off htab hgt) (h0 := hF4.p) (_ht := by decide) (hsz := by rw [hF4.size]; decide) (n := n + 11 + 19 + 1) (hE := hE4) (hn := by omega) (k' := 19) (hx' := dd_size (Nat.lt_of_lt_of_le hmO.off (by decide)) (by decide)) (hK := fun a5 w5 u5 hE5 => ?_)
    have hF5 := hF4.up u5 (by decide)
    have h3_5 := u5.var 3 (by decide) h3_4
    have U5 := U4.trans u5 (by decide)
    clear hE4 hF4 u5 h3_4
    exact hK _ _ (U5.down (by decide)) (hE5.to (by unfold tx_139; exact (if_pos hqt).symm) (by omega))
  · exact wp_skip (hK _ _ u1 (hE0.to (by unfold tx_139; exact (if_neg (by rw [hqt]; decide)).symm) (by omega)))
def tb_134 (m : MapD) (l : List UInt8) : List UInt8 := ((tx_139 m ((((l ++ [35, 69, 88, 84, 45, 88, 45, 77, 65, 80, 58]) ++ [85, 82, 73, 61, 34]) ++ m.uri.data.toList) ++ [34])) ++ [10])
set_option maxRecDepth 100000 in
theorem bd_134 (hF0 : Fr b a0) (hq : Blk w0 q 96 (segC num s kp (some mb))) (hqb : q ≠ b) (hsO : s.Ok) (h3_0 : a0.tmps.getD 3 undef = pt q) (hm : Blk w0 mb 103 (mapC m)) (hmb : mb ≠ b) (hmO : m.Ok) (htab : TabP w0) (hgt : 7 < B) (hn : n + 108 ≤ 1000000) (hE0 : EL B b (plR d) w0 n l w) (hK : ∀ a' w', Up 795 a0 a' → EL B b (plR d) w0 (n + 108) (tb_134 m l) w' → Q .normal a' w') :
    (cat [1, 1, 1, 1, 1, 1, 1, 1, 1, 1, 1, 1, 1, 1, 1, 1, 1, 1, 1, 1, 1, 0, 1, 0, 0, 1, 0, 0, 1, 1, 1, 1, 1, 1, 1, 0, 1, 0] encB).wp Tryz.prog Q a0 w := by
  change Code.wp _ (Code.seq _ _) _ _ _
  refine wp_seq (s_wsc' (x := ⟨#[35, 69, 88, 84, 45, 88, 45, 77, 65, 80, 58]⟩) (h0 := hF0.p) (_ht := by decide) (hsz := by rw [hF0.size]; decide) (n := n) (hE := hE0) (hn := by omega) (k' := 11) (hx' := by decide) (hK := fun a1 w1 u1 hE1 => (?_ : Code.wp _ _ _ _ _)))
  have hF1 := hF0.up u1 (by decide)
  have h3_1 := u1.var 3 (by decide) h3_0
  have U1 := u1
  clear hE0 hF0 u1 h3_0
  refine wp_seq (s_wsc' (x := ⟨#[85, 82, 73, 61, 34]⟩) (h0 := hF1.p) (_ht := by decide) (hsz := by rw [hF1.size]; decide) (n := n + 11) (hE := hE1) (hn := by omega) (k' := 5) (hx' := by decide) (hK := fun a2 w2 u2 hE2 => (?_ : Code.wp _ _ _ _ _)))
  have hF2 := hF1.up u2 (by decide)
  have h3_2 := u2.var 3 (by decide) h3_1
  have U2 := U1.trans u2 (by decide)
  clear hE1 hF1 u2 h3_1
  refine wp_seq (s_wsp2' (x := m.uri) (hf := (fun _ _ => by kernel_rfl)) (hL := (fun _ => by kernel_rfl)) (hf2 := (fun _ _ => by kernel_rfl)) (hL2 := (fun _ => by kernel_rfl)) (hr := h3_2) (hc := ((hE2.blk hq hqb (by decide)).cell 7)) (hc2 := ((hE2.blk hm hmb (by decide)).cell 0)) (hv := rfl) (hrt := by decide) (hB := by kernel_rfl) (h0 := hF2.p) (_ht := by decide) (hsz := by rw [hF2.size]; decide) (n := n + 11 + 5) (hE := hE2) (hn := by omega) (k' := 40) (hx' := hmO.uri) (hK := fun a3 w3 u3 hE3 => (?_ : Code.wp _ _ _ _ _)))
  have hF3 := hF2.up u3 (by decide)
  have h3_3 := u3.var 3 (by decide) h3_2
  have U3 := U2.trans u3 (by decide)
  clear hE2 hF2 u3 h3_2
  refine wp_seq (s_wrc' (x := 34) (hx := by decide) (h0 := hF3.p) (_ht := by decide) (hsz := by rw [hF3.size]; decide) (n := n + 11 + 5 + 40) (hE := hE3) (hn := by omega) (k' := 1) (hx' := by decide) (hK := fun a4 w4 u4 hE4 => (?_ : Code.wp _ _ _ _ _)))
  have hF4 := hF3.up u4 (by decide)
  have h3_4 := u4.var 3 (by decide) h3_3
  have U4 := U3.trans u4 (by decide)
  clear hE3 hF3 u4 h3_3
  refine wp_seq (if_139 (hq := hq) (hqb := hqb) (hsO := hsO) (hm := hm) (hmb := hmb) (hmO := hmO) (htab := htab) (hgt := hgt) (hF0 := hF4) (h3_0 := h3_4) (n := n + 11 + 5 + 40 + 1) (hE0 := hE4) (hn := by omega) (hK := fun a5 w5 u5 hE5 => (?_ : Code.wp _ _ _ _ _)))
  have hF5 := hF4.up u5 (by decide)
  have h3_5 := u5.var 3 (by decide) h3_4
  have U5 := U4.trans u5 (by decide)
  clear hE4 hF4 u5 h3_4
  refine s_wrc' (x := 10) (hx := by decide) (h0 := hF5.p) (_ht := by decide) (hsz := by rw [hF5.size]; decide) (n := n + 11 + 5 + 40 + 1 + 50) (hE := hE5) (hn := by omega) (k' := 1) (hx' := by decide) (hK := fun a6 w6 u6 hE6 => ?_)
  have hF6 := hF5.up u6 (by decide)
  have h3_6 := u6.var 3 (by decide) h3_5
  have U6 := U5.trans u6 (by decide)
  clear hE5 hF5 u6 h3_5
  exact hK _ _ (U6.down (by decide)) (hE6.to rfl (by omega))
def tx_132 (s : SegD) (l : List UInt8) : List UInt8 := if s.disc = true then (l ++ [35, 69, 88, 84, 45, 88, 45, 68, 73, 83, 67, 79, 78, 84, 73, 78, 85, 73, 84, 89, 10]) else l
set_option maxRecDepth 100000 in
theorem if_132 (hF0 : Fr b a0) (hq : Blk w0 q 96 (segC num s kp mp)) (hqb : q ≠ b) (hsO : s.Ok) (h3_0 : a0.tmps.getD 3 undef = pt q) (htab : TabP w0) (hgt : 7 < B) (hn : n + 21 ≤ 1000000) (hE0 : EL B b (plR d) w0 n l w) (hK : ∀ a' w', Up 775 a0 a' → EL B b (plR d) w0 (n + 21) (tx_132 s l) w' → Q .normal a' w') :
    (cat [1, 1, 1, 1, 1, 1, 1, 1, 1, 1, 1, 1, 1, 1, 1, 1, 1, 1, 1, 1, 1, 0, 1, 0, 0, 1, 0, 0, 1, 1, 1, 1, 1, 1, 0] encB).wp Tryz.prog Q a0 w := by
  change Code.wp _ (Code.seq (Code.region _ _ _) (Code.cond _ _ _)) _ _ _
  refine t_val (hf := (fun _ _ => by kernel_rfl)) (hL := (fun _ => by kernel_rfl)) (hr := h3_0) (hc := ((hE0.blk hq hqb (by decide)).cell 8)) (hv := rfl) (hsz := by rw [hF0.size]; decide) (q := s.disc) (hT := fun hqt a1 u1 => ?_) (hN := fun hqt a1 u1 => ?_)
  · have hF1 := hF0.up u1 (by decide)
    have h3_1 := u1.var 3 (by decide) h3_0
    have U1 := u1
    have hE1 := hE0
    clear hE0 hF0 u1 h3_0
    refine s_wsc' (x := ⟨#[35, 69, 88, 84, 45, 88, 45, 68, 73, 83, 67, 79, 78, 84, 73, 78, 85, 73, 84, 89, 10]⟩) (h0 := hF1.p) (_ht := by decide) (hsz := by rw [hF1.size]; decide) (n := n) (hE := hE1) (hn := by omega) (k' := 21) (hx' := by decide) (hK := fun a2 w2 u2 hE2 => ?_)
    have hF2 := hF1.up u2 (by decide)
    have h3_2 := u2.var 3 (by decide) h3_1
    have U2 := U1.trans u2 (by decide)
    clear hE1 hF1 u2 h3_1
    exact hK _ _ (U2.down (by decide)) (hE2.to (by unfold tx_132; exact (if_pos hqt).symm) (by omega))
  · exact wp_skip (hK _ _ u1 (hE0.to (by unfold tx_132; exact (if_neg (by rw [hqt]; decide)).symm) (by omega)))
def tx_145 (s : SegD) (l : List UInt8) : List UInt8 := if strNe s.date ⟨#[]⟩ = true then (((l ++ [35, 69, 88, 84, 45, 88, 45, 80, 82, 79, 71, 82, 65, 77, 45, 68, 65, 84, 69, 45, 84, 73, 77, 69, 58]) ++ s.date.data.toList) ++ [10]) else l
set_option maxRecDepth 100000 in
theorem if_145 (hF0 : Fr b a0) (hq : Blk w0 q 96 (segC num s kp mp)) (hqb : q ≠ b) (hsO : s.Ok) (h3_0 : a0.tmps.getD 3 undef = pt q) (htab : TabP w0) (hgt : 7 < B) (hn : n + 66 ≤ 1000000) (hE0 : EL B b (plR d) w0 n l w) (hK : ∀ a' w', Up 862 a0 a' → EL B b (plR d) w0 (n + 66) (tx_145 s l) w' → Q .normal a' w') :
    (cat [1, 1, 1, 1, 1, 1, 1, 1, 1, 1, 1, 1, 1, 1, 1, 1, 1, 1, 1, 1, 1, 0, 1, 0, 0, 1, 0, 0, 1, 1, 1, 1, 1, 1, 1, 1, 0] encB).wp Tryz.prog Q a0 w := by
  change Code.wp _ (Code.seq (Code.region _ _ _) (Code.cond _ _ _)) _ _ _
  refine t_bin1 (hf := (fun _ _ => by kernel_rfl)) (hL := (fun _ => by kernel_rfl)) (hr := h3_0) (hc := ((hE0.blk hq hqb (by decide)).cell 10)) (hb := (fun w => bo_strne _ _ w)) (hsz := by rw [hF0.size]; decide) (q := strNe s.date ⟨#[]⟩) (hT := fun hqt a1 u1 => ?_) (hN := fun hqt a1 u1 => ?_)
  · have hF1 := hF0.up u1 (by decide)
    have h3_1 := u1.var 3 (by decide) h3_0
    have U1 := u1
    have hE1 := hE0
    clear hE0 hF0 u1 h3_0
    refine wp_seq (s_wsc' (x := ⟨#[35, 69, 88, 84, 45, 88, 45, 80, 82, 79, 71, 82, 65, 77, 45, 68, 65, 84, 69, 45, 84, 73, 77, 69, 58]⟩) (h0 := hF1.p) (_ht := by decide) (hsz := by rw [hF1.size]; decide) (n := n) (hE := hE1) (hn := by omega) (k' := 25) (hx' := by decide) (hK := fun a2 w2 u2 hE2 => (?_ : Code.wp _ _ _ _ _)))
    have hF2 := hF1.up u2 (by decide)
    have h3_2 := u2.var 3 (by decide) h3_1
    have U2 := U1.trans u2 (by decide)
    clear hE1 hF1 u2 h3_1
    refine wp_seq (s_wsp1' (x := s.date) (hf := (fun _ _ => by kernel_rfl)) (hL := (fun _ => by kernel_rfl)) (hr := h3_2) (hc := ((hE2.blk hq hqb (by decide)).cell 10)) (hv := rfl) (hrt := by decide) (hB := by kernel_rfl) (h0 := hF2.p) (_ht := by decide) (hsz := by rw [hF2.size]; decide) (n := n + 25) (hE := hE2) (hn := by omega) (k' := 40) (hx' := hsO.date) (hK := fun a3 w3 u3 hE3 => (?_ : Code.wp _ _ _ _ _)))
    have hF3 := hF2.up u3 (by decide)
    have h3_3 := u3.var 3 (by decide) h3_2
    have U3 := U2.trans u3 (by decide)
    clear hE2 hF2 u3 h3_2
    refine s_wrc' (x := 10) (hx := by decide) (h0 := hF3.p) (_ht := by decide) (hsz := by rw [hF3.size]; decide) (n := n + 25 + 40) (hE := hE3) (hn := by omega) (k' := 1) (hx' := by decide) (hK := fun a4 w4 u4 hE4 => ?_)
    have hF4 := hF3.up u4 (by decide)
    have h3_4 := u4.var 3 (by decide) h3_3
    have U4 := U3.trans u4 (by decide)
    clear hE3 hF3 u4 h3_3
    exact hK _ _ (U4.down (by decide)) (hE4.to (by unfold tx_145; exact (if_pos hqt).symm) (by omega))
  · exact wp_skip (hK _ _ u1 (hE0.to (by unfold tx_145; exact (if_neg (by rw [hqt]; decide)).symm) (by omega)))
def tx_149 (s : SegD) (l : List UInt8) : List UInt8 := if decide (0 < (s.li : Int)) = true then (((((l ++ [35, 69, 88, 84, 45, 88, 45, 66, 89, 84, 69, 82, 65, 78, 71, 69, 58]) ++ Lib.decDigits s.li) ++ [64]) ++ Lib.decDigits s.off) ++ [10]) else l
set_option maxRecDepth 100000 in
theorem if_149 (hF0 : Fr b a0) (hq : Blk w0 q 96 (segC num s kp mp)) (hqb : q ≠ b) (hsO : s.Ok) (h3_0 : a0.tmps.getD 3 undef = pt q) (htab : TabP w0) (hgt : 7 < B) (hn : n + 57 ≤ 1000000) (hE0 : EL B b (plR d) w0 n l w) (hK : ∀ a' w', Up 883 a0 a' → EL B b (plR d) w0 (n + 57) (tx_149 s l) w' → Q .normal a' w') :
    (cat [1, 1, 1, 1, 1, 1, 1, 1, 1, 1, 1, 1, 1, 1, 1, 1, 1, 1, 1, 1, 1, 0, 1, 0, 0, 1, 0, 0, 1, 1, 1, 1, 1, 1, 1, 1, 1, 0] encB).wp Tryz.prog Q a0 w := by
  change Code.wp _ (Code.seq (Code.region _ _ _) (Code.cond _ _ _)) _ _ _
  refine t_bin1 (hf := (fun _ _ => by kernel_rfl)) (hL := (fun _ => by kernel_rfl)) (hr := h3_0) (hc := ((hE0.blk hq hqb (by decide)).cell 4)) (hb := (fun w => bo_gtr _ w)) (hsz := by rw [hF0.size]; decide) (q := decide (0 < (s.li : Int))) (hT := fun hqt a1 u1 => ?_) (hN := fun hqt a1 u1 => ?_)
  · have hF1 := hF0.up u1 (by decide)
    have h3_1 := u1.var 3 (by decide) h3_0
    have U1 := u1
    have hE1 := hE0
    clear hE0 hF0 u1 h3_0
    refine wp_seq (s_wsc' (x := ⟨#[35, 69, 88, 84, 45, 88, 45, 66, 89, 84, 69, 82, 65, 78, 71, 69, 58]⟩) (h0 := hF1.p) (_ht := by decide) (hsz := by rw [hF1.size]; decide) (n := n) (hE := hE1) (hn := by omega) (k' := 17) (hx' := by decide) (hK := fun a2 w2 u2 hE2 => (?_ : Code.wp _ _ _ _ _)))
    have hF2 := hF1.up u2 (by decide)
    have h3_2 := u2.var 3 (by decide) h3_1
    have U2 := U1.trans u2 (by decide)
    clear hE1 hF1 u2 h3_1
    refine wp_seq (s_wsf1_1' (x := bs (Lib.decDigits s.li)) (hg := fun _ _ => by kernel_rfl) (hf := (fun _ _ => by kernel_rfl)) (hL := (fun _ => by kernel_rfl)) (hr := h3_2) (hc := (fun l w hEE => (Blk.cell (hEE.block hq hqb (by decide)) 4))) (hrt := by decide) (hB := by kernel_rfl) (hC := fi_any _ hsO.li htab hgt) (h0 := hF2.p) (_ht := by decide) (hsz := by rw [hF2.size]; decide) (n := n + 17) (hE := hE2) (hn := by omega) (k' := 19) (hx' := dd_size (Nat.lt_of_lt_of_le hsO.li (by decide)) (by decide)) (hK := fun a3 w3 u3 hE3 => (?_ : Code.wp _ _ _ _ _)))
    have hF3 := hF2.up u3 (by decide)
    have h3_3 := u3.var 3 (by decide) h3_2
    have U3 := U2.trans u3 (by decide)
    clear hE2 hF2 u3 h3_2
    refine wp_seq (s_wrc' (x := 64) (hx := by decide) (h0 := hF3.p) (_ht := by decide) (hsz := by rw [hF3.size]; decide) (n := n + 17 + 19) (hE := hE3) (hn := by omega) (k' := 1) (hx' := by decide) (hK := fun a4 w4 u4 hE4 => (?_ : Code.wp _ _ _ _ _)))
    have hF4 := hF3.up u4 (by decide)
    have h3_4 := u4.var 3 (by decide) h3_3
    have U4 := U3.trans u4 (by decide)
    clear hE3 hF3 u4 h3_3
    refine wp_seq (s_wsf1_1' (x := bs (Lib.decDigits s.off)) (hg := fun _ _ => by kernel_rfl) (hf := (fun _ _ => by kernel_rfl)) (hL := (fun _ => by kernel_rfl)) (hr := h3_4) (hc := (fun l w hEE => (Blk.cell (hEE.block hq hqb (by decide)) 5))) (hrt := by decide) (hB := by kernel_rfl) (hC := fi_any _ hsO.off htab hgt) (h0 := hF4.p) (_ht := by decide) (hsz := by rw [hF4.size]; decide) (n := n + 17 + 19 + 1) (hE := hE4) (hn := by omega) (k' := 19) (hx' := dd_size (Nat.lt_of_lt_of_le hsO.off (by decide)) (by decide)) (hK := fun a5 w5 u5 hE5 => (?_ : Code.wp _ _ _ _ _)))
    have hF5 := hF4.up u5 (by decide)
    have h3_5 := u5.var 3 (by decide) h3_4
    have U5 := U4.trans u5 (by decide)
    clear hE4 hF4 u5 h3_4
    refine s_wrc' (x := 10) (hx := by decide) (h0 := hF5.p) (_ht := by decide) (hsz := by rw [hF5.size]; decide) (n := n + 17 + 19 + 1 + 19) (hE := hE5) (hn := by omega) (k' := 1) (hx' := by decide) (hK := fun a6 w6 u6 hE6 => ?_)
    have hF6 := hF5.up u6 (by decide)
    have h3_6 := u6.var 3 (by decide) h3_5
    have U6 := U5.trans u6 (by decide)
    clear hE5 hF5 u6 h3_5
    exact hK _ _ (U6.down (by decide)) (hE6.to (by unfold tx_149; exact (if_pos hqt).symm) (by omega))
  · exact wp_skip (hK _ _ u1 (hE0.to (by unfold tx_149; exact (if_neg (by rw [hqt]; decide)).symm) (by omega)))
def tx_171 (d : PlD) (l : List UInt8) : List UInt8 := if d.clo = true then (l ++ [35, 69, 88, 84, 45, 88, 45, 69, 78, 68, 76, 73, 83, 84, 10]) else l
set_option maxRecDepth 100000 in
theorem if_171 (hF0 : Fr b a0) (hn : n + 15 ≤ 1000000) (hE0 : EL B b (plR d) w0 n l w) (hK : ∀ a' w', Up 1018 a0 a' → EL B b (plR d) w0 (n + 15) (tx_171 d l) w' → Q .normal a' w') :
    (cat [1, 1, 1, 1, 1, 1, 1, 1, 1, 1, 1, 1, 1, 1, 1, 1, 1, 1, 1, 1, 1, 1, 0] encB).wp Tryz.prog Q a0 w := by
  change Code.wp _ (Code.seq (Code.region _ _ _) (Code.cond _ _ _)) _ _ _
  refine t_val (hf := (fun _ _ => by kernel_rfl)) (hL := (fun _ => by kernel_rfl)) (hr := hF0.p) (hc := (hE0.cell 5 (by decide))) (hv := rfl) (hsz := by rw [hF0.size]; decide) (q := d.clo) (hT := fun hqt a1 u1 => ?_) (hN := fun hqt a1 u1 => ?_)
  · have hF1 := hF0.up u1 (by decide)
    have U1 := u1
    have hE1 := hE0
    clear hE0 hF0 u1
    refine s_wsc' (x := ⟨#[35, 69, 88, 84, 45, 88, 45, 69, 78, 68, 76, 73, 83, 84, 10]⟩) (h0 := hF1.p) (_ht := by decide) (hsz := by rw [hF1.size]; decide) (n := n) (hE := hE1) (hn := by omega) (k' := 15) (hx' := by decide) (hK := fun a2 w2 u2 hE2 => ?_)
    have hF2 := hF1.up u2 (by decide)
    have U2 := U1.trans u2 (by decide)
    clear hE1 hF1 u2
    exact hK _ _ (U2.down (by decide)) (hE2.to (by unfold tx_171; exact (if_pos hqt).symm) (by omega))
  · exact wp_skip (hK _ _ u1 (hE0.to (by unfold tx_171; exact (if_neg (by rw [hqt]; decide)).symm) (by omega)))
end
end Go.Proofs.YtlphcidpaidclaaGreatDoor
