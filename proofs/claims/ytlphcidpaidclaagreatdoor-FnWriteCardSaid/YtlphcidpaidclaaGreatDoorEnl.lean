/-
  Encode: the loop over the segments; the function as a whole.
-/
import Derived.Test.YtlphcidpaidclaaGreatDoorEns
namespace Go.Proofs.YtlphcidpaidclaaGreatDoor
open Go.RowKit
section
set_option maxRecDepth 100000
variable {B b q kb mb num n r j c i : Nat} {kp mp : Option Nat} {k : KeyD} {m : MapD} {s : SegD} {d : PlD} {w w0 : World} {a a0 : Act} {l : List UInt8} {Q : Exit → Act → World → Prop}
/-- the loop's test -/
theorem cond68 (hF0 : FrR b r j c i a0) (hE0 : EL B b (plR d) w0 n l w) (hT : (i < d.win ∨ d.win = 0) ∧ 0 < c → ∀ a', Up 373 a0 a' → Q .normal a' w) (hN : ¬ ((i < d.win ∨ d.win = 0) ∧ 0 < c) → ∀ a', Up 373 a0 a' → Q (.exit 1) a' w) :
    (cat [1, 1, 1, 1, 1, 1, 1, 1, 1, 1, 1, 1, 1, 1, 1, 1, 1, 1, 1, 1, 1, 0, 1, 0, 0, 0] encB).wp Tryz.prog Q a0 w := by
  change Code.wp _ (Code.seq (Code.region _ _ _) (Code.cond _ _ _)) _ _ _
  refine wp_seq (rg_plain 17 ?_)
  refine st_o (ex_mv hF0.s7) (by rw [hF0.size]; decide) fun a1 u1 h1 => ?_
  have hF1 := hF0.up u1 (by decide)
  refine st_path1 (fun _ _ => by kernel_rfl) (fun _ => by kernel_rfl) hF1.p (hE0.cell 12 (by decide)) (by rw [hF1.size]; decide) fun a2 u2 h2 => ?_
  have hF2 := hF1.up u2 (by decide)
  have h2' : a2.eval (.tmp 377) = .int .u64 d.win := h2
  refine st_o (ex_bin (u2.var 373 (by decide) h1) h2' (bo_lssu _ _ _)) (by rw [hF2.size]; decide) fun a3 u3 h3 => ?_
  have hF3 := hF2.up u3 (by decide)
  refine st_o (ex_mv (v := .bool (decide ((i : Int) < d.win))) h3) (by rw [hF3.size]; decide) fun a4 u4 h4 => ?_
  have hF4 := hF3.up u4 (by decide)
  have U4 := ((u1.trans u2 (by decide)).trans u3 (by decide)).trans u4 (by decide)
  have fin : ∀ (z : Bool) (a7 : Act), (z = true ↔ ((i < d.win ∨ d.win = 0) ∧ 0 < c)) → Up 373 a0 a7 → a7.tmps.getD 389 undef = .bool z → Code.wp Tryz.prog (Code.cond (.tmp 389) .skip (.exit 1)) Q a7 w := fun z a7 hz u h => by
    cases z with
    | true => exact wp_cond_true h (wp_skip (hT (hz.1 rfl) _ u))
    | false => exact wp_cond_false h (wp_exit (hN (fun h => by have := hz.2 h; cases this) _ u))
  by_cases hi : i < d.win
  · have hd1 : decide ((i : Int) < d.win) = true := by simpa using hi
    rw [hd1] at h4
    have hy : ∀ {a : Act} {ops : Array Oper}, (ops[6]?).bind (·.dst) = some 379 → a.tmps.getD 379 undef = .bool true → yielded ops a.tmps 6 = some true := fun h1 h2 => yl h1 h2
    refine st_sk (hy rfl h4) (by decide) (by rw [hF4.size]; decide) fun a5 u5 h5 => ?_
    refine st_sk (hy rfl (u5.var 379 (by decide) h4)) (by decide) (by rw [u5.size, hF4.size]; decide) fun a6 u6 h6 => ?_
    have U6 := u5.trans u6 (by decide)
    refine st_sk (hy rfl (U6.var 379 (by decide) h4)) (by decide) (by rw [U6.size, hF4.size]; decide) fun a7 u7 h7 => ?_
    have U7 := U6.trans u7 (by decide)
    refine st_sk (hy rfl (U7.var 379 (by decide) h4)) (by decide) (by rw [U7.size, hF4.size]; decide) fun a8 u8 h8 => ?_
    have U8 := U7.trans u8 (by decide)
    refine st_sk (hy rfl (U8.var 379 (by decide) h4)) (by decide) (by rw [U8.size, hF4.size]; decide) fun a9 u9 h9 => ?_
    have U9 := U8.trans u9 (by decide)
    refine st_o (ex_pick (q := true) (v := .bool true) (U9.var 379 (by decide) h4) rfl) (by rw [U9.size, hF4.size]; decide) fun a10 u10 h10 => ?_
    have hF10 := (hF4.up U9 (by decide)).up u10 (by decide)
    refine st_o (ex_mv (v := .bool true) h10) (by rw [hF10.size]; decide) fun a11 u11 h11 => ?_
    have hF11 := hF10.up u11 (by decide)
    have hy2 : ∀ {a : Act} {ops : Array Oper}, (ops[13]?).bind (·.dst) = some 386 → a.tmps.getD 386 undef = .bool true → yielded ops a.tmps 13 = some true := fun h1 h2 => yl h1 h2
    refine st_og (hy2 rfl h11) (ex_mv hF11.s6) (by rw [hF11.size]; decide) fun a12 u12 h12 => ?_
    have hF12 := hF11.up u12 (by decide)
    refine st_og (hy2 rfl (u12.var 386 (by decide) h11)) (ex_bin h12 rfl (bo_gtru _ _ _)) (by rw [hF12.size]; decide) fun a13 u13 h13 => ?_
    have hF13 := hF12.up u13 (by decide)
    refine st_o (ex_pick (q := true) (v := .bool (decide ((0 : Int) < c))) (u13.var 386 (by decide) (u12.var 386 (by decide) h11)) h13) (by rw [hF13.size]; decide) fun a14 u14 h14 => ?_
    exact fin _ _ (by simp [hi]) ((((((U4.trans U9 (by decide)).trans u10 (by decide)).trans u11 (by decide)).trans u12 (by decide)).trans u13 (by decide)).trans u14 (by decide)) h14
  · have hd1 : decide ((i : Int) < d.win) = false := by simpa using hi
    rw [hd1] at h4
    have hy : ∀ {a : Act} {ops : Array Oper}, (ops[6]?).bind (·.dst) = some 379 → a.tmps.getD 379 undef = .bool false → yielded ops a.tmps 6 = some false := fun h1 h2 => yl h1 h2
    refine st_og (hy rfl h4) (ex_mv (v := pt b) hF4.p) (by rw [hF4.size]; decide) fun a5 u5 h5 => ?_
    refine st_og (hy rfl (u5.var 379 (by decide) h4)) (ex_nil (ad := ⟨b, 0, none⟩) h5) (by rw [u5.size, hF4.size]; decide) fun a6 u6 h6 => ?_
    have U6 := u5.trans u6 (by decide)
    refine st_og (hy rfl (U6.var 379 (by decide) h4)) (ex_fa (k := 12) (fun _ _ => by kernel_rfl) h6) (by rw [U6.size, hF4.size]; decide) fun a7 u7 h7 => ?_
    have U7 := U6.trans u7 (by decide)
    refine st_og (v := .int .u64 d.win) (hy rfl (U7.var 379 (by decide) h4)) (ex_ld (fun _ => by kernel_rfl) h7 (hE0.cell 12 (by decide))) (by rw [U7.size, hF4.size]; decide) fun a8 u8 h8 => ?_
    have U8 := U7.trans u8 (by decide)
    refine st_og (hy rfl (U8.var 379 (by decide) h4)) (ex_bin h8 rfl (bo_eqlu _ _ _)) (by rw [U8.size, hF4.size]; decide) fun a9 u9 h9 => ?_
    have U9 := U8.trans u9 (by decide)
    have hF9 := hF4.up U9 (by decide)
    refine st_o (ex_pick (q := false) (v := .bool ((d.win : Int) == 0)) (U9.var 379 (by decide) h4) h9) (by rw [hF9.size]; decide) fun a10 u10 h10 => ?_
    have hF10 := hF9.up u10 (by decide)
    refine st_o (ex_mv (v := .bool ((d.win : Int) == 0)) h10) (by rw [hF10.size]; decide) fun a11 u11 h11 => ?_
    have hF11 := hF10.up u11 (by decide)
    have U11 := ((U4.trans U9 (by decide)).trans u10 (by decide)).trans u11 (by decide)
    by_cases hw : d.win = 0
    · have hd2 : ((d.win : Int) == 0) = true := by rw [hw]; rfl
      rw [hd2] at h11
      have hy2 : ∀ {a : Act} {ops : Array Oper}, (ops[13]?).bind (·.dst) = some 386 → a.tmps.getD 386 undef = .bool true → yielded ops a.tmps 13 = some true := fun h1 h2 => yl h1 h2
      refine st_og (hy2 rfl h11) (ex_mv hF11.s6) (by rw [hF11.size]; decide) fun a12 u12 h12 => ?_
      have hF12 := hF11.up u12 (by decide)
      refine st_og (hy2 rfl (u12.var 386 (by decide) h11)) (ex_bin h12 rfl (bo_gtru _ _ _)) (by rw [hF12.size]; decide) fun a13 u13 h13 => ?_
      have hF13 := hF12.up u13 (by decide)
      refine st_o (ex_pick (q := true) (v := .bool (decide ((0 : Int) < c))) (u13.var 386 (by decide) (u12.var 386 (by decide) h11)) h13) (by rw [hF13.size]; decide) fun a14 u14 h14 => ?_
      exact fin _ _ (by simp [hw]) (((U11.trans u12 (by decide)).trans u13 (by decide)).trans u14 (by decide)) h14
    · have hd2 : ((d.win : Int) == 0) = false := by simpa using hw
      rw [hd2] at h11
      have hy2 : ∀ {a : Act} {ops : Array Oper}, (ops[13]?).bind (·.dst) = some 386 → a.tmps.getD 386 undef = .bool false → yielded ops a.tmps 13 = some false := fun h1 h2 => yl h1 h2
      refine st_sk (hy2 rfl h11) (by decide) (by rw [hF11.size]; decide) fun a12 u12 h12 => ?_
      refine st_sk (hy2 rfl (u12.var 386 (by decide) h11)) (by decide) (by rw [u12.size, hF11.size]; decide) fun a13 u13 h13 => ?_
      have U13 := u12.trans u13 (by decide)
      refine st_o (ex_pick (q := false) (v := .bool false) (U13.var 386 (by decide) h11) rfl) (by rw [U13.size, hF11.size]; decide) fun a14 u14 h14 => ?_
      exact fin _ _ (by simp [hi, hw]) ((U11.trans U13 (by decide)).trans u14 (by decide)) h14


theorem KeyIn.cells {w w' : World} {kp : Option Nat} {k : Option KeyD} (h : KeyIn w b kp k) (hc : Cells b w w') : KeyIn w' b kp k := by
  cases h with
  | nil => exact .nil
  | mk h hb ok => exact .mk (hc _ _ _ hb (by decide) h) hb ok
theorem MapIn.cells {w w' : World} {kp : Option Nat} {k : Option MapD} (h : MapIn w b kp k) (hc : Cells b w w') : MapIn w' b kp k := by
  cases h with
  | nil => exact .nil
  | mk h hb ok => exact .mk (hc _ _ _ hb (by decide) h) hb ok
/-- one segment behind a pointer -/
structure SegIn (w : World) (b : Nat) (d : PlD) (s : SegD) (q : Nat) : Prop where
  ex : ∃ kp mp num, q ≠ b ∧ Blk w q 96 (segC num s kp mp) ∧ KeyIn w b kp s.key ∧ MapIn w b mp s.map ∧ (∀ x, kp = some x → d.kp ≠ some x)
  ok : s.Ok
  e : d.asI = true ∧ s.e < 4000 ∨ s.e < 160 ∧ FF32
theorem SegIn.cells {w w' : World} {q : Nat} (h : SegIn w b d s q) (hc : Cells b w w') : SegIn w' b d s q := by
  obtain ⟨⟨kp, mp, num, h1, h2, h3, h4, h5⟩, h6, h7⟩ := h
  exact ⟨⟨kp, mp, num, h1, hc _ _ _ h1 (by decide) h2, h3.cells hc, h4.cells hc, h5⟩, h6, h7⟩
/-- the segments behind their pointers -/
def SegsIn (w : World) (b : Nat) (d : PlD) (segs : List SegD) (ptrs : Array Value) : Prop := ∀ j (h : j < segs.length), ∃ q, ptrs[j]? = some (pt q) ∧ SegIn w b d segs[j] q
theorem SegsIn.cells {w w' : World} {segs : List SegD} {ptrs : Array Value} (h : SegsIn w b d segs ptrs) (hc : Cells b w w') : SegsIn w' b d segs ptrs := fun j hj => by
  obtain ⟨q, h1, h2⟩ := h j hj
  exact ⟨q, h1, h2.cells hc⟩
theorem TabP.below {w w' : World} (h : TabP w) (hB : Below B w w') (hgt : 7 < B) : TabP w' := h.keep fun k hk => hB.block k (Nat.lt_of_le_of_lt hk hgt)

/-- what a round writes -/
def rdT (d : PlD) (s : SegD) (l : List UInt8) : List UInt8 := segT4 s (segT1 d s l ++ durT d.asI s.e)
variable {cs : List Nat}
theorem round {key : Option KeyD} {ptrs : Array Value} (hF0 : FrR b r j c i a0) (hg : Blk w0 d.g 74 ptrs) (hgb : d.g ≠ b) (hcap : d.cap < 1000000) (hi : i < 1000000) (hc : c < 1000000)
    (hseg : (i < d.win ∨ d.win = 0) ∧ 0 < c → j < d.cap ∧ ptrs[j]? = some (pt q) ∧ SegIn w0 b d s q) (hki : KeyIn w0 b d.kp key)
    (hcs : ∀ x ∈ cs, x < 4000) (hmap : w0.heap[r]? = some (cacheObj (durT d.asI) cs)) (hrB : B ≤ r) (hrb : r ≠ b) (htab : TabP w0) (hgt : 7 < B) (hn : n + 627 ≤ 1000000) (hE0 : EL B b (plR d) w0 n l w)
    (hK : (i < d.win ∨ d.win = 0) ∧ 0 < c → ∀ a' w' w1 cs', FrR b r ((j + 1) % d.cap) (c - 1) (if 0 < d.win then i + 1 else i) a' → Below B w0 w1 → Cells b w0 w1 → (∀ x ∈ cs', x < 4000) → w1.heap[r]? = some (cacheObj (durT d.asI) cs') → EL B b (plR d) w1 (n + 627) (rdT d s l) w' → Q .normal a' w')
    (hX : ¬ ((i < d.win ∨ d.win = 0) ∧ 0 < c) → ∀ a', Up 373 a0 a' → Q (.exit 1) a' w) :
    (cat [1, 1, 1, 1, 1, 1, 1, 1, 1, 1, 1, 1, 1, 1, 1, 1, 1, 1, 1, 1, 1, 0, 1, 0, 0] encB).wp Tryz.prog Q a0 w := by
  change Code.wp _ (Code.seq (Code.seq _ _) (Code.seq (Code.block _ _) _)) _ _ _
  refine wp_seq (cond68 hF0 hE0 (fun hgo a1 u1 => ?_) (fun hgo a1 u1 => hX hgo _ u1))
  obtain ⟨hj, hjp, hsg⟩ := hseg hgo
  obtain ⟨⟨kp, mp, num, hqb, hq, hks, hms, hne⟩, hsO, he⟩ := hsg
  have hF1 := hF0.up u1 (by decide)
  change Code.wp _ (Code.seq (Code.block _ _) _) _ _ _
  refine wp_seq (wp_block ?_)
  refine ph1 hF1 hg hgb hjp hj hcap hi hE0 fun a2 hF2 h32 => ?_
  refine ph2 hF2.toFr hq hqb hsO h32 hks hki hne hms htab hgt (by omega) hE0 fun a3 w3 u3 hE3 => ?_
  have hF3 := hF2.up u3 (by decide)
  refine ph3 hF3 hq hqb (u3.var 3 (by decide) h32) he hcs hmap hrB hrb htab hgt (by omega) hE3 fun a4 w4 w1 cs' hF4 h34 hB hC hcs' hmap' hE4 => ?_
  refine ph4 hF4.toFr (hC _ _ _ hqb (by decide) hq) hqb hsO h34 (by omega) hE4 fun a5 w5 u5 hE5 => ?_
  have hF5 := hF4.up u5 (by decide)
  change Code.wp _ (Code.region _ _ _) _ _ _
  refine rg_plain 3 ?_
  refine st_o (ex_mv hF5.s6) (by rw [hF5.size]; decide) fun a6 u6 h6 => ?_
  have hF6 := hF5.up u6 (by decide)
  refine st_o (ex_bin h6 rfl (bo_subu _ _ _ (by omega) (by omega))) (by rw [hF6.size]; decide) fun a7 u7 h7 => ?_
  have hF7 := hF6.up u7 (by decide)
  have h7' : a7.eval (.tmp 391) = .int .u64 (c - 1 : Nat) := h7.trans (by rw [Int.ofNat_sub (by omega)]; rfl)
  refine st_v (ex_as h7') ?_
  exact hK hgo _ _ _ _ (hF7.put6 (c' := c - 1)) hB hC hcs' hmap' (hE5.mono (by omega))

/-- how many segments are written -/
def nWrit (d : PlD) : Nat := if d.win = 0 then d.cnt else min d.win d.cnt
def segsT (d : PlD) (segs : List SegD) (l : List UInt8) : List UInt8 := segs.foldl (fun l s => rdT d s l) l
theorem segsT_snoc (segs : List SegD) (j : Nat) (hj : j < segs.length) : segsT d (segs.take (j + 1)) l = rdT d segs[j] (segsT d (segs.take j) l) := by
  unfold segsT
  rw [List.take_succ_eq_append_getElem hj, List.foldl_append]
  rfl

/-- the loop -/
theorem enc_loop {key : Option KeyD} {ptrs : Array Value} {segs : List SegD} (hF0 : FrR b r 0 d.cnt 0 a0) (hg : Blk w0 d.g 74 ptrs) (hgb : d.g ≠ b) (hcnt : d.cnt = segs.length) (hcc : d.cnt ≤ d.cap) (hcap : d.cap ≤ 1024)
    (hseg : SegsIn w0 b d segs ptrs) (hki : KeyIn w0 b d.kp key) (hmap : w0.heap[r]? = some (cacheObj (durT d.asI) [])) (hrB : B ≤ r) (hrb : r ≠ b) (htab : TabP w0) (hgt : 7 < B) (hn : n ≤ 1000) (hE0 : EL B b (plR d) w0 n l w)
    (hK : ∀ a' w' w1, Fr b a' → Below B w0 w1 → EL B b (plR d) w1 (n + 627 * nWrit d) (segsT d (segs.take (nWrit d)) l) w' → Q .normal a' w') :
    (cat [1, 1, 1, 1, 1, 1, 1, 1, 1, 1, 1, 1, 1, 1, 1, 1, 1, 1, 1, 1, 1, 0, 1] encB).wp Tryz.prog Q a0 w := by
  change Code.wp _ (Code.block 1 (Code.loop _)) _ _ _
  have hN : nWrit d ≤ d.cnt := by unfold nWrit; split <;> omega
  refine wp_block (wp_loop (fun a w => ∃ j cs w1, j ≤ nWrit d ∧ FrR b r (j % d.cap) (d.cnt - j) (if 0 < d.win then j else 0) a ∧ Below B w0 w1 ∧ Cells b w0 w1 ∧ (∀ x ∈ cs, x < 4000) ∧ w1.heap[r]? = some (cacheObj (durT d.asI) cs) ∧ EL B b (plR d) w1 (n + 627 * j) (segsT d (segs.take j) l) w)
    (fun a _ => (intOf (a.tmps.getD 6 undef)).toNat) ⟨0, [], w0, Nat.zero_le _, by simpa using hF0, Below.refl _ _, Cells.refl _ _, (fun _ h => by cases h), hmap, hE0⟩ ?_)
  rintro a w ⟨j, cs, w1, hjN, hF, hB, hC, hcs, hm, hE⟩
  have hiff : ((if 0 < d.win then j else 0) < d.win ∨ d.win = 0) ∧ 0 < d.cnt - j ↔ j < nWrit d := by
    unfold nWrit
    by_cases hw : d.win = 0
    · simp [hw]; omega
    · have : 0 < d.win := by omega
      simp only [hw, this, if_true, if_false, or_false]; omega
  obtain ⟨q, hq⟩ : ∃ q, j < nWrit d → ptrs[j]? = some (pt q) ∧ ∀ h : j < segs.length, SegIn w1 b d segs[j] q := by
    by_cases h : j < nWrit d
    · obtain ⟨q, h1, h2⟩ := hseg j (by omega)
      exact ⟨q, fun _ => ⟨h1, fun _ => h2.cells hC⟩⟩
    · exact ⟨0, fun h' => absurd h' h⟩
  have hjm : j < nWrit d → j % d.cap = j := fun h => Nat.mod_eq_of_lt (by omega)
  change (cat [1, 1, 1, 1, 1, 1, 1, 1, 1, 1, 1, 1, 1, 1, 1, 1, 1, 1, 1, 1, 1, 0, 1, 0, 0] encB).wp _ _ _ _
  refine round (s := segs[j]?.getD ⟨⟨#[]⟩, ⟨#[]⟩, 0, 0, 0, none, none, false, ⟨#[]⟩⟩) (q := q) (key := key) hF (hC _ _ _ hgb (by decide) hg) hgb (by omega) (by split <;> omega) (by omega) ?_ (hki.cells hC) hcs hm hrB hrb (htab.below hB hgt) hgt ?_ hE ?_ ?_
  · intro hgo
    have hj := hiff.1 hgo
    have hjl : j < segs.length := by omega
    rw [hjm hj]
    refine ⟨by omega, (hq hj).1, ?_⟩
    have := (hq hj).2 hjl
    simpa [hjl] using this
  · have : 627 * j ≤ 627 * 1024 := Nat.mul_le_mul_left _ (by omega)
    omega
  · intro hgo a' w' w2 cs' hF' hB' hC' hcs' hm' hE'
    have hj := hiff.1 hgo
    have hjl : j < segs.length := by omega
    refine ⟨⟨j + 1, cs', w2, hj, ?_, hB.trans hB', hC.trans hC', hcs', hm', ?_⟩, ?_⟩
    · rw [hjm hj] at hF'
      rw [show d.cnt - (j + 1) = d.cnt - j - 1 by omega]
      have e : (if 0 < d.win then j + 1 else 0) = (if 0 < d.win then (if 0 < d.win then j else 0) + 1 else (if 0 < d.win then j else 0)) := by split <;> rfl
      rw [e]
      exact hF'
    · rw [segsT_snoc segs j hjl, show n + 627 * (j + 1) = n + 627 * j + 627 by omega]
      simpa [hjl] using hE'
    · rw [hF'.s6, hF.s6]
      simp only [intOf, Int.toNat_natCast]
      omega
  · intro hgo a' u'
    have hj : ¬ j < nWrit d := fun h => hgo (hiff.2 h)
    obtain rfl : j = nWrit d := by omega
    exact hK _ _ _ (hF.toFr.up u' (by decide)) hB hE


/-- what Encode writes -/
def encT (d : PlD) (key : Option KeyD) (map : Option MapD) (segs : List SegD) : List UInt8 := tx_171 d (segsT d (segs.take (nWrit d)) (headT d key map))
theorem cells_alloc {w : World} (o : Obj) : Cells b w (w.alloc o) := fun _ _ _ _ _ h => h.alloc o
theorem Below.new {B : Nat} {w : World} (h : B ≤ w.heap.size) (o : Obj) : Below B w (w.alloc o) := (Below.refl B w).alloc h o

theorem encode_any {key : Option KeyD} {map : Option MapD} {ptrs : Array Value} {segs : List SegD} (hdO : d.Ok) (hki : KeyIn w b d.kp key) (hmi : MapIn w b d.mp map) (hg : Blk w d.g 74 ptrs) (hgb : d.g ≠ b) (hcnt : d.cnt = segs.length) (hcc : d.cnt ≤ d.cap) (hcap : d.cap ≤ 1024)
    (hseg : SegsIn w b d segs ptrs) (htab : TabP w) (hgt : 7 < B) (hE0 : Enc B b (plR d) w [] w) :
    Calls Tryz.prog 35 #[pt b] w fun e w' => e = .returned (.pointer (some ⟨b, 17, none⟩)) ∧ ∃ w1, Below B w w1 ∧ Enc B b (plR d) w1 (encT d key map segs) w' := by
  refine calls_of_wp Tryz.func35 rfl ?_
  change encB.wp _ _ _ _
  refine enc_head (key := key) (map := map) ⟨by simp [Tryz.ntmps35], rfl, by simp⟩ hdO hki hmi htab hgt ⟨hE0, Nat.le_refl 0⟩ fun a1 w1 hF1 hE1 => ?_
  change Code.wp _ (Code.seq _ (Code.seq _ (Code.seq _ (Code.seq _ (Code.seq (Code.seq _ _) (Code.seq (Code.seq _ _) (Code.seq _ _))))))) _ _ _
  refine wp_seq (rg_plain 1 (st_v (ex_as (v := .pointer none) rfl) ?_))
  have hF2 := put_fr (x := 3) (v := .pointer none) hF1 (by decide)
  change Code.wp _ _ _ (a1.put (some 3) (.pointer none)) _
  generalize a1.put (some 3) (.pointer none) = a2 at *
  clear hF1
  refine wp_seq (rg_plain 0 ?_)
  have hmk : (execOp a2.eval ⟨some 364, .makeMap 123 none, 123, "writer.go:461", #[], none⟩).run Tryz.prog w1 = .ok (.value (.map (some w1.heap.size))) (w1.alloc (.map #[] 0)) := by
    simp only [execOp, Option.map_none, Sem.run_bind, run_makeMap, Result.andThen_ok, Sem.run_pure]
  refine wl_o hmk (by rw [hF2.size]; decide) fun a3 u3 h3 => ?_
  have hF3 := hF2.up u3 (by decide)
  refine wl_v (ex_as h3) ?_
  have hF4 := put_fr (x := 4) (v := .map (some w1.heap.size)) hF3 (by decide)
  have h44 : (a3.put (some 4) (.map (some w1.heap.size))).tmps.getD 4 undef = .map (some w1.heap.size) := put_get _ (by rw [hF3.size]; decide)
  change Code.wp _ _ _ (a3.put (some 4) (.map (some w1.heap.size))) _
  generalize a3.put (some 4) (.map (some w1.heap.size)) = a4 at *
  -- the world behind the new map
  have hrm : (w1.alloc (.map #[] 0)).heap[w1.heap.size]? = some (cacheObj (durT d.asI) []) := heap_alloc_new _ _
  have hrB : B ≤ w1.heap.size := hE1.enc.low
  have hrb : w1.heap.size ≠ b := fun e => by have := hE1.enc.buf.lt; omega
  have hC : Cells b w (w1.alloc (.map #[] 0)) := hE1.enc.cells.trans (cells_alloc _)
  have hB1 : Below B w (w1.alloc (.map #[] 0)) := hE1.enc.bel.trans (Below.new hrB _)
  have hE2 : EL B b (plR d) (w1.alloc (.map #[] 0)) 640 (headT d key map) (w1.alloc (.map #[] 0)) := ⟨(hE1.enc.alloc _).rebase, hE1.len⟩
  generalize w1.alloc (.map #[] 0) = W at *
  generalize w1.heap.size = r at *
  clear hmk hE1 u3 h3 hF2 hF3
  refine wp_seq (rg_plain 5 ?_)
  refine st_path1 (fun _ _ => by kernel_rfl) (fun _ => by kernel_rfl) hF4.p (hE2.cell 14 (by decide)) (by rw [hF4.size]; decide) fun a5 u5 h5 => ?_
  have hF5 := hF4.up u5 (by decide)
  refine st_v (ex_as (v := .int .u64 0) h5) ?_
  have hF6 := put_fr (x := 5) (v := .int .u64 0) hF5 (by decide)
  have h64 : (a5.put (some 5) (.int .u64 0)).tmps.getD 4 undef = .map (some r) := (put_other (by decide)).trans (u5.var 4 (by decide) h44)
  have h65 : (a5.put (some 5) (.int .u64 0)).tmps.getD 5 undef = .int .u64 0 := put_get _ (by rw [hF5.size]; decide)
  change Code.wp _ _ _ (a5.put (some 5) (.int .u64 0)) _
  generalize a5.put (some 5) (.int .u64 0) = a6 at *
  refine wp_seq (rg_plain 5 ?_)
  refine st_path1 (fun _ _ => by kernel_rfl) (fun _ => by kernel_rfl) hF6.p (hE2.cell 16 (by decide)) (by rw [hF6.size]; decide) fun a7 u7 h7 => ?_
  have hF7 := hF6.up u7 (by decide)
  refine st_v (ex_as (v := .int .u64 d.cnt) h7) ?_
  have hF8 := put_fr (x := 6) (v := .int .u64 d.cnt) hF7 (by decide)
  have h84 : (a7.put (some 6) (.int .u64 d.cnt)).tmps.getD 4 undef = .map (some r) := (put_other (by decide)).trans (u7.var 4 (by decide) h64)
  have h85 : (a7.put (some 6) (.int .u64 d.cnt)).tmps.getD 5 undef = .int .u64 0 := (put_other (by decide)).trans (u7.var 5 (by decide) h65)
  have h86 : (a7.put (some 6) (.int .u64 d.cnt)).tmps.getD 6 undef = .int .u64 d.cnt := put_get _ (by rw [hF7.size]; decide)
  change Code.wp _ _ _ (a7.put (some 6) (.int .u64 d.cnt)) _
  generalize a7.put (some 6) (.int .u64 d.cnt) = a8 at *
  refine wp_seq (wp_seq (rg_plain 1 (st_v (ex_as (v := .int .u64 0) rfl) ?_)))
  have hF9 : FrR b r 0 d.cnt 0 (a8.put (some 7) (.int .u64 0)) := ⟨put_fr hF8 (by decide), (put_other (by decide)).trans h84, (put_other (by decide)).trans h85, (put_other (by decide)).trans h86, put_get _ (by rw [hF8.size]; decide)⟩
  change Code.wp _ _ _ (a8.put (some 7) (.int .u64 0)) _
  generalize a8.put (some 7) (.int .u64 0) = a9 at *
  clear hF4 hF5 hF6 hF7 hF8 u5 u7 h5 h7 h44 h64 h65 h84 h85 h86
  refine enc_loop hF9 (hC _ _ _ hgb (by decide) hg) hgb hcnt hcc hcap (hseg.cells hC) (hki.cells hC) hrm hrB hrb (htab.below hB1 hgt) hgt (by decide) hE2 fun a10 w10 w2 hF10 hB2 hE10 => ?_
  change Code.wp _ (Code.seq (Code.seq _ _) (Code.seq _ _)) _ _ _
  have hNle : nWrit d ≤ 1024 := by unfold nWrit; split <;> omega
  refine wp_seq (if_171 hF10 (by have : 627 * nWrit d ≤ 627 * 1024 := Nat.mul_le_mul_left _ hNle; omega) hE10 fun a11 w11 u11 hE11 => ?_)
  have hF11 := hF10.up u11 (by decide)
  change Code.wp _ (Code.seq _ _) _ _ _
  refine wp_seq (rg_plain 4 ?_)
  refine st_addr faBuf hF11.p (by rw [hF11.size]; decide) fun a12 u12 h12 => ?_
  have hF12 := hF11.up u12 (by decide)
  refine st_v (ex_as h12) ?_
  have hF13 := put_fr (x := 2) (v := .pointer (some ⟨b, 17, none⟩)) hF12 (by decide)
  have h132 : (a12.put (some 2) (.pointer (some ⟨b, 17, none⟩))).tmps.getD 2 undef = .pointer (some ⟨b, 17, none⟩) := put_get _ (by rw [hF12.size]; decide)
  refine wp_ret (bodyPost_ret (v := .pointer (some ⟨b, 17, none⟩)) ((results_tmp rfl _ _ _).trans (by rw [h132])) hF13.defers ⟨rfl, w2, hB1.trans hB2, hE11.enc⟩)

end
end Go.Proofs.YtlphcidpaidclaaGreatDoor
