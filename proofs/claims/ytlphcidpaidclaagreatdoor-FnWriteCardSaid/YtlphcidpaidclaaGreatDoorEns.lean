/-
  One round of Encode's loop: the segment taken, its duration by the cache, the round as a whole.
-/
import Derived.Test.YtlphcidpaidclaaGreatDoorEnr
namespace Go.Proofs.YtlphcidpaidclaaGreatDoor
open Go.RowKit
section
set_option maxRecDepth 100000
variable {B b q kb mb num n r j c i : Nat} {kp mp : Option Nat} {k : KeyD} {m : MapD} {s : SegD} {d : PlD} {w w0 : World} {a a0 : Act} {l : List UInt8} {Q : Exit → Act → World → Prop}
theorem ix_run (g cap j : Nat) (hj : j < cap) (w : World) : (Instr.indexAt 61 (.slice (some ⟨g, 0, none⟩) cap cap) (.int .u64 j)).run Tryz.prog w = .ok (.pointer (some ⟨g, j, none⟩)) w := by
  have h1 : (j : Int) < (cap : Int) := by omega
  have h2 : (0 : Int) ≤ (j : Int) := by omega
  simp [go_sem, h1, h2]
theorem ex_ix {dd : Option Tmp} {ty : TypeId} {p : String} {af : Array Edge} {g : Option (Nat × Bool)} {x y : Operand} {G cap j : Nat} (hx : a.eval x = .slice (some ⟨G, 0, none⟩) cap cap) (hy : a.eval y = .int .u64 j) (hj : j < cap) : (execOp a.eval ⟨dd, .indexAddr 61 x y, ty, p, af, g⟩).run Tryz.prog w = .ok (.value (.pointer (some ⟨G, j, none⟩))) w := by
  simp only [execOp, hx, hy, Sem.run_bind, ix_run _ _ _ hj, Result.andThen_ok, Sem.run_pure]
theorem FrR.put3 {v : Value} (h : FrR b r j c i a) : FrR b r j c i (a.put (some 3) v) := ⟨put_fr h.toFr (by decide), (put_other (by decide)).trans h.s4, (put_other (by decide)).trans h.s5, (put_other (by decide)).trans h.s6, (put_other (by decide)).trans h.s7⟩
theorem FrR.put5 {j' : Nat} (h : FrR b r j c i a) : FrR b r j' c i (a.put (some 5) (.int .u64 j')) := ⟨put_fr h.toFr (by decide), (put_other (by decide)).trans h.s4, put_get _ (by rw [h.size]; decide), (put_other (by decide)).trans h.s6, (put_other (by decide)).trans h.s7⟩
theorem FrR.put6 {c' : Nat} (h : FrR b r j c i a) : FrR b r j c' i (a.put (some 6) (.int .u64 c')) := ⟨put_fr h.toFr (by decide), (put_other (by decide)).trans h.s4, (put_other (by decide)).trans h.s5, put_get _ (by rw [h.size]; decide), (put_other (by decide)).trans h.s7⟩
theorem FrR.put7 {i' : Nat} (h : FrR b r j c i a) : FrR b r j c i' (a.put (some 7) (.int .u64 i')) := ⟨put_fr h.toFr (by decide), (put_other (by decide)).trans h.s4, (put_other (by decide)).trans h.s5, (put_other (by decide)).trans h.s6, put_get _ (by rw [h.size]; decide)⟩
theorem FrR.put89 {v : Value} {x : Nat} (h : FrR b r j c i a) (hx : 7 < x) : FrR b r j c i (a.put (some x) v) := ⟨put_fr h.toFr (by omega), (put_other (by omega)).trans h.s4, (put_other (by omega)).trans h.s5, (put_other (by omega)).trans h.s6, (put_other (by omega)).trans h.s7⟩

/-- the segment is taken -/
theorem ph1 {ptrs : Array Value} (hF0 : FrR b r j c i a0) (hg : Blk w0 d.g 74 ptrs) (hgb : d.g ≠ b) (hjp : ptrs[j]? = some (pt q)) (hj : j < d.cap) (hcap : d.cap < 1000000) (hi : i < 1000000) (hE0 : EL B b (plR d) w0 n l w)
    (hK : ∀ a', FrR b r ((j + 1) % d.cap) c (if 0 < d.win then i + 1 else i) a' → a'.tmps.getD 3 undef = pt q → (cat [1, 1, 1, 1, 1, 1, 1, 1, 1, 1, 1, 1, 1, 1, 1, 1, 1, 1, 1, 1, 1, 0, 1, 0, 0, 1, 0, 0, 1, 1, 1, 1] encB).wp Tryz.prog Q a' w) :
    (cat [1, 1, 1, 1, 1, 1, 1, 1, 1, 1, 1, 1, 1, 1, 1, 1, 1, 1, 1, 1, 1, 0, 1, 0, 0, 1, 0, 0] encB).wp Tryz.prog Q a0 w := by
  change Code.wp _ (Code.seq (Code.region _ _ _) (Code.seq _ (Code.seq (Code.seq _ _) (Code.seq (Code.seq _ _) _)))) _ _ _
  refine wp_seq (rg_plain 8 ?_)
  refine st_path1 (fun _ _ => by kernel_rfl) (fun _ => by kernel_rfl) hF0.p (hE0.cell 2 (by decide)) (by rw [hF0.size]; decide) fun a1 u1 h1 => ?_
  have hF1 := hF0.up u1 (by decide)
  refine st_o (ex_mv hF1.s5) (by rw [hF1.size]; decide) fun a2 u2 h2 => ?_
  have hF2 := hF1.up u2 (by decide)
  refine st_o (ex_ix (u2.var 395 (by decide) h1) h2 hj) (by rw [hF2.size]; decide) fun a3 u3 h3 => ?_
  have hF3 := hF2.up u3 (by decide)
  refine st_o (ex_ld (v := pt q) (fun _ => by kernel_rfl) h3 (((hE0.blk hg hgb (by decide)).cell j).trans hjp)) (by rw [hF3.size]; decide) fun a4 u4 h4 => ?_
  have hF4 := hF3.up u4 (by decide)
  refine st_v (ex_as (v := pt q) h4) ?_
  have hF5 := hF4.put3 (v := pt q)
  have h35 : (a4.put (some 3) (pt q)).tmps.getD 3 undef = pt q := put_get _ (by rw [hF4.size]; decide)
  change Code.wp _ _ _ (a4.put (some 3) (pt q)) _
  generalize a4.put (some 3) (pt q) = a5 at *
  clear u1 u2 u3 u4 h1 h2 h3 h4 hF0 hF1 hF2 hF3 hF4
  refine wp_seq (rg_plain 8 ?_)
  refine st_o (ex_mv hF5.s5) (by rw [hF5.size]; decide) fun a6 u6 h6 => ?_
  have hF6 := hF5.up u6 (by decide)
  refine st_o (ex_bin h6 rfl (bo_addu _ _ _ (by omega) (by omega))) (by rw [hF6.size]; decide) fun a7 u7 h7 => ?_
  have hF7 := hF6.up u7 (by decide)
  refine st_path1 (fun _ _ => by kernel_rfl) (fun _ => by kernel_rfl) hF7.p (hE0.cell 13 (by decide)) (by rw [hF7.size]; decide) fun a8 u8 h8 => ?_
  have hF8 := hF7.up u8 (by decide)
  have h8' : a8.eval (.tmp 404) = .int .u64 d.cap := h8
  refine st_o (ex_bin (u8.var 400 (by decide) h7) h8' (bo_remu _ _ _ (by omega) (by omega) (by omega))) (by rw [hF8.size]; decide) fun a9 u9 h9 => ?_
  have hF9 := hF8.up u9 (by decide)
  have h9' : a9.eval (.tmp 405) = .int .u64 ((j + 1) % d.cap : Nat) := h9.trans (by rw [Int.natCast_emod]; rfl)
  refine st_v (ex_as h9') ?_
  have hF10 := hF9.put5 (j' := (j + 1) % d.cap)
  have h310 : (a9.put (some 5) (.int .u64 ((j + 1) % d.cap : Nat))).tmps.getD 3 undef = pt q := (put_other (by decide)).trans (u9.var 3 (by decide) (u8.var 3 (by decide) (u7.var 3 (by decide) (u6.var 3 (by decide) h35))))
  change Code.wp _ _ _ (a9.put (some 5) (.int .u64 ((j + 1) % d.cap : Nat))) _
  generalize a9.put (some 5) (.int .u64 ((j + 1) % d.cap : Nat)) = a10 at *
  clear u6 u7 u8 u9 h6 h7 h8 h8' h9 h9' hF5 hF6 hF7 hF8 hF9 h35
  refine wp_seq (wp_seq (rg_plain 2 ?_))
  refine st_o (ex_mv h310) (by rw [hF10.size]; decide) fun a11 u11 h11 => ?_
  have hF11 := hF10.up u11 (by decide)
  refine st_o (ex_bin h11 rfl (bo_sgnil _ _)) (by rw [hF11.size]; decide) fun a12 u12 h12 => ?_
  have hF12 := hF11.up u12 (by decide)
  have h312 := u12.var 3 (by decide) (u11.var 3 (by decide) h310)
  refine wp_cond_false h12 (wp_skip ?_)
  change Code.wp _ _ _ _ _
  refine wp_seq (t_bin1 (hf := fun _ _ => by kernel_rfl) (hL := fun _ => by kernel_rfl) (hr := hF12.p) (hc := hE0.cell 12 (by decide)) (hb := fun w => bo_gtru _ _ w) (hsz := by rw [hF12.size]; decide) (hT := fun hqt a13 u13 => ?_) (hN := fun hqt a13 u13 => ?_))
  · have hw : 0 < d.win := by simpa using hqt
    have hF13 := hF12.up u13 (by decide)
    refine rg_plain 3 ?_
    refine st_o (ex_mv hF13.s7) (by rw [hF13.size]; decide) fun a14 u14 h14 => ?_
    have hF14 := hF13.up u14 (by decide)
    refine st_o (ex_bin h14 rfl (bo_addu _ _ _ (by omega) (by omega))) (by rw [hF14.size]; decide) fun a15 u15 h15 => ?_
    have hF15 := hF14.up u15 (by decide)
    have h15' : a15.eval (.tmp 414) = .int .u64 (i + 1 : Nat) := h15.trans (by rw [Int.natCast_add]; rfl)
    refine st_v (ex_as h15') ?_
    have hF16 := hF15.put7 (i' := i + 1)
    have h316 : (a15.put (some 7) (.int .u64 (i + 1 : Nat))).tmps.getD 3 undef = pt q := (put_other (by decide)).trans (u15.var 3 (by decide) (u14.var 3 (by decide) (u13.var 3 (by decide) h312)))
    exact hK _ (by rw [if_pos hw]; exact hF16) h316
  · have hw : ¬ 0 < d.win := by simpa using hqt
    exact wp_skip (hK _ (by rw [if_neg hw]; exact hF12.up u13 (by decide)) (u13.var 3 (by decide) h312))


/-- a duration's text -/
def durT (asI : Bool) (e : Nat) : List UInt8 := if asI then Lib.decDigits ((e + 7) / 8) else sec3 e
/-- rows of other kinds than bytes, but for block b, are as they were -/
def Cells (b : Nat) (w w' : World) : Prop := ∀ (k T : Nat) (c : Array Value), k ≠ b → T ≠ 5 → Blk w k T c → Blk w' k T c
theorem Cells.refl (b : Nat) (w : World) : Cells b w w := fun _ _ _ _ _ h => h
theorem Cells.trans {b : Nat} {w w1 w2 : World} (h : Cells b w w1) (h1 : Cells b w1 w2) : Cells b w w2 := fun k T c hk hT h0 => h1 k T c hk hT (h k T c hk hT h0)
theorem Enc.cells {R : Nat → Option Value} (h : Enc B b R w0 l w) : Cells b w0 w := fun _ _ _ hk hT h0 => h.block h0 hk hT
theorem cells_putB {T : Nat → List UInt8} {cs : List Nat} (hr : w.heap[r]? = some (cacheObj T cs)) (o : Obj) : Cells b w (putB w r o) := fun k T c _ _ h0 => by
  have hne : k ≠ r := fun e => by subst e; unfold Blk at h0; rw [hr] at h0; cases h0
  exact (putB_other w r o k hne).trans h0

theorem ex_look {dd : Option Tmp} {ty : TypeId} {p : String} {af : Array Edge} {g : Option (Nat × Bool)} {x y : Operand} {t : TypeId} {ok : Bool} {vx vy v : Value} (hx : a.eval x = vx) (hy : a.eval y = vy) (h : (Instr.lookup t vx vy ok).run Tryz.prog w = .ok v w) : (execOp a.eval ⟨dd, .lookup t x y ok, ty, p, af, g⟩).run Tryz.prog w = .ok (.value v) w := by
  simp only [execOp, hx, hy, Sem.run_bind, h, Result.andThen_ok, Sem.run_pure]
theorem ex_ext {dd : Option Tmp} {ty : TypeId} {p : String} {af : Array Edge} {g : Option (Nat × Bool)} {x : Operand} {vs : Array Value} {ix : Nat} {v : Value} (hx : a.eval x = .tuple vs) (h : (Instr.extract (.tuple vs) ix).run Tryz.prog w = .ok v w) : (execOp a.eval ⟨dd, .extract x ix, ty, p, af, g⟩).run Tryz.prog w = .ok (.value v) w := by
  simp only [execOp, hx, Sem.run_bind, h, Result.andThen_ok, Sem.run_pure]
theorem mt_u {ops : Array Oper} {S : World → Prop} {K : Act → World → Prop} {rest : List Oper} {ty : TypeId} {p : String} {af : Array Edge} {t : TypeId} {x y z : Operand} {vx vy vz : Value} {w' : World} (hx : a.eval x = vx) (hy : a.eval y = vy) (hz : a.eval z = vz) (h : (Instr.mapUpdate t vx vy vz).run Tryz.prog w = .ok () w') (hK : S w' ∧ wpTail ops S K rest a w') :
    wpTail ops S K (⟨none, .mapUpdate t x y z, ty, p, af, none⟩ :: rest) a w := by
  refine ⟨by simp [Region.wanted], ?_⟩
  have e : (execOp a.eval ⟨none, .mapUpdate t x y z, ty, p, af, none⟩).run Tryz.prog w = .ok .skip w' := by
    simp only [execOp, hx, hy, hz, Sem.run_bind, h, Result.andThen_ok, Sem.run_pure]
  unfold Oper.wp
  rw [e]
  exact hK
theorem dur_len {asI : Bool} {e : Nat} (h : asI = true ∧ e < 4000 ∨ e < 160) : (durT asI e).length ≤ 20 := by
  unfold durT
  split
  · exact Nat.le_trans (decDigits_len 4 _ (by omega) (by omega)) (by omega)
  · rcases h with ⟨h, _⟩ | h
    · contradiction
    · exact sec3_len ⟨e, h⟩

variable {cs : List Nat}
/-- the duration, by the cache -/
theorem ph3 (hF0 : FrR b r j c i a0) (hq : Blk w0 q 96 (segC num s kp mp)) (hqb : q ≠ b) (h3_0 : a0.tmps.getD 3 undef = pt q) (he : d.asI = true ∧ s.e < 4000 ∨ s.e < 160 ∧ FF32) (hcs : ∀ x ∈ cs, x < 4000) (hmap : w0.heap[r]? = some (cacheObj (durT d.asI) cs)) (hrB : B ≤ r) (hrb : r ≠ b)
    (htab : TabP w0) (hgt : 7 < B) (hn : n + 20 ≤ 1000000) (hE0 : EL B b (plR d) w0 n l w)
    (hK : ∀ a' w' w1 cs', FrR b r j c i a' → a'.tmps.getD 3 undef = pt q → Below B w0 w1 → Cells b w0 w1 → (∀ x ∈ cs', x < 4000) → w1.heap[r]? = some (cacheObj (durT d.asI) cs') → EL B b (plR d) w1 (n + 20) (l ++ durT d.asI s.e) w' → (cat [1, 1, 1, 1, 1, 1, 1, 1, 1, 1, 1, 1, 1, 1, 1, 1, 1, 1, 1, 1, 1, 0, 1, 0, 0, 1, 0, 0, 1, 1, 1, 1, 1, 1, 1, 1, 1, 1, 1, 1] encB).wp Tryz.prog Q a' w') :
    (cat [1, 1, 1, 1, 1, 1, 1, 1, 1, 1, 1, 1, 1, 1, 1, 1, 1, 1, 1, 1, 1, 0, 1, 0, 0, 1, 0, 0, 1, 1, 1, 1, 1, 1, 1, 1, 1, 1, 1] encB).wp Tryz.prog Q a0 w := by
  have he4 : s.e < 4000 := by rcases he with h | h <;> omega
  have hT := dur_len (he.imp_right And.left)
  have hmw : w.heap[r]? = some (cacheObj (durT d.asI) cs) := hE0.enc.oth r _ hmap (fun e => hrb (Option.some.inj e)) (fun c fz e => by cases e)
  change Code.wp _ (Code.seq (Code.seq (Code.region _ _ _) (Code.seq (Code.region _ _ _) (Code.cond _ _ _))) _) _ _ _
  have hK2 : ∀ a' w' w1 cs', FrR b r j c i a' → a'.tmps.getD 3 undef = pt q → Below B w0 w1 → Cells b w0 w1 → (∀ x ∈ cs', x < 4000) → w1.heap[r]? = some (cacheObj (durT d.asI) cs') → EL B b (plR d) w1 (n + 20) (l ++ durT d.asI s.e) w' → Exit.then (fun a w => Code.wp Tryz.prog (cat [1, 1, 1, 1, 1, 1, 1, 1, 1, 1, 1, 1, 1, 1, 1, 1, 1, 1, 1, 1, 1, 0, 1, 0, 0, 1, 0, 0, 1, 1, 1, 1, 1, 1, 1, 1, 1, 1, 1, 1] encB) Q a w) Q .normal a' w' := hK
  clear hK
  -- what the look into the cache yields
  obtain ⟨hit, tx, hlk, hhit⟩ : ∃ (hit : Bool) (tx : ByteArray), (Instr.lookup 123 (.map (some r)) (.float .f64 (fb s.e)) true).run Tryz.prog w = .ok (.tuple #[.string tx, .bool hit]) w ∧ (hit = true → tx = bs (durT d.asI s.e)) ∧ (hit = false → s.e ∉ cs) := by
    by_cases hm : s.e ∈ cs
    · exact ⟨true, _, (look_yes (durT d.asI) s.e r he4 w cs hcs hmw hm).1, fun _ => rfl, fun h => by cases h⟩
    · exact ⟨false, _, look_no (durT d.asI) s.e r he4 w cs hcs hmw hm, (fun h => by cases h), fun _ => hm⟩
  refine wp_seq (wp_seq (rg_plain 11 ?_))
  refine st_o (ex_mv hF0.s4) (by rw [hF0.size]; decide) fun a1 u1 h1 => ?_
  have hF1 := hF0.up u1 (by decide)
  have h31 := u1.var 3 (by decide) h3_0
  refine st_path1 (fun _ _ => by kernel_rfl) (fun _ => by kernel_rfl) h31 ((hE0.blk hq hqb (by decide)).cell 3) (by rw [hF1.size]; decide) fun a2 u2 h2 => ?_
  have hF2 := hF1.up u2 (by decide)
  have h32 := u2.var 3 (by decide) h31
  have h2' : a2.eval (.tmp 927) = .float .f64 (fb s.e) := h2
  refine st_o (ex_look (u2.var 923 (by decide) h1) h2' hlk) (by rw [hF2.size]; decide) fun a3 u3 h3 => ?_
  have hF3 := hF2.up u3 (by decide)
  have h33 := u3.var 3 (by decide) h32
  refine st_v (ex_mv (v := .tuple #[.string tx, .bool hit]) h3) ?_
  have hF4 := hF3.put89 (x := 922) (v := .tuple #[.string tx, .bool hit]) (by decide)
  have h34 : (a3.put (some 922) (.tuple #[.string tx, .bool hit])).tmps.getD 3 undef = pt q := (put_other (by decide)).trans h33
  have h4 : (a3.put (some 922) (.tuple #[.string tx, .bool hit])).tmps.getD 922 undef = .tuple #[.string tx, .bool hit] := put_get _ (by rw [hF3.size]; decide)
  generalize a3.put (some 922) (.tuple #[.string tx, .bool hit]) = a4 at *
  refine st_o (ex_ext (v := .string tx) h4 rfl) (by rw [hF4.size]; decide) fun a5 u5 h5 => ?_
  have hF5 := hF4.up u5 (by decide)
  have h35 := u5.var 3 (by decide) h34
  refine st_o (ex_ext (v := .bool hit) (u5.var 922 (by decide) h4) rfl) (by rw [hF5.size]; decide) fun a6 u6 h6 => ?_
  have hF6 := hF5.up u6 (by decide)
  have h36 := u6.var 3 (by decide) h35
  refine st_v (ex_as (v := .string tx) (u6.var 929 (by decide) h5)) ?_
  have hF7 := hF6.put89 (x := 8) (v := .string tx) (by decide)
  have h37 : (a6.put (some 8) (.string tx)).tmps.getD 3 undef = pt q := (put_other (by decide)).trans h36
  have h78 : (a6.put (some 8) (.string tx)).tmps.getD 8 undef = .string tx := put_get _ (by rw [hF6.size]; decide)
  have h79 : (a6.put (some 8) (.string tx)).tmps.getD 930 undef = .bool hit := (put_other (by decide)).trans h6
  generalize a6.put (some 8) (.string tx) = a7 at *
  refine st_v (ex_as (v := .bool hit) h79) ?_
  have hF8 := hF7.put89 (x := 9) (v := .bool hit) (by decide)
  have h38 : (a7.put (some 9) (.bool hit)).tmps.getD 3 undef = pt q := (put_other (by decide)).trans h37
  have h88 : (a7.put (some 9) (.bool hit)).tmps.getD 8 undef = .string tx := (put_other (by decide)).trans h78
  have h89 : (a7.put (some 9) (.bool hit)).tmps.getD 9 undef = .bool hit := put_get _ (by rw [hF7.size]; decide)
  change Code.wp _ _ _ (a7.put (some 9) (.bool hit)) _
  generalize a7.put (some 9) (.bool hit) = a8 at *
  clear h1 h2 h2' h3 h4 h5 h6 h31 h32 h33 h34 h35 h36 h37 h78 h79 u1 u2 u3 u5 u6 hF0 hF1 hF2 hF3 hF4 hF5 hF6 hF7 h3_0
  refine wp_seq (rg_plain 1 ?_)
  refine st_o (ex_mv h89) (by rw [hF8.size]; decide) fun a9 u9 h9 => ?_
  have hF9 := hF8.up u9 (by decide)
  have h39 := u9.var 3 (by decide) h38
  have h98 := u9.var 8 (by decide) h88
  cases hit with
  | true =>
    refine wp_cond_true h9 (rg_plain 4 ?_)
    obtain rfl := hhit.1 rfl
    refine st_addr faBuf hF9.p (by rw [hF9.size]; decide) fun a10 u10 h10 => ?_
    have hF10 := hF9.up u10 (by decide)
    refine st_o (ex_mv (u10.var 8 (by decide) h98)) (by rw [hF10.size]; decide) fun a11 u11 h11 => ?_
    have hF11 := hF10.up u11 (by decide)
    refine wl_c (ex_call cfWS) (R := fun _ w' => Enc B b (plR d) w0 (l ++ durT d.asI s.e) w') ?_ ?_
    · have e1 : a11.eval (.tmp 934) = .pointer (some ⟨b, 17, none⟩) := u11.var 934 (by decide) h10
      have e2 : a11.eval (.tmp 935) = .string (bs (durT d.asI s.e)) := h11
      have e : (#[Operand.tmp 934, Operand.tmp 935] : Array Operand).map a11.eval = #[.pointer (some ⟨b, 17, none⟩), .string (bs (durT d.asI s.e))] := by
        simp only [List.map_toArray, List.map_cons, List.map_nil, e1, e2]
      rw [e]
      exact (enc_ws _ hE0.enc (by have := hE0.len; have h3 : (bs (durT d.asI s.e)).size = (durT d.asI s.e).length := rfl; omega)).mono fun _ _ h => ⟨_, h.1, h.2⟩
    · intro v w' h
      have u12 := Up.put a11 v (Nat.le_refl 936)
      exact hK2 _ _ w0 cs (hF11.up u12 (by decide)) (u12.var 3 (by decide) (u11.var 3 (by decide) (u10.var 3 (by decide) h39))) (Below.refl _ _) (Cells.refl _ _) hcs hmap (EL.app hE0.len hT h)
  | false =>
    refine wp_cond_false h9 (wp_seq ?_)
    have hno := hhit.2 rfl
    clear hhit hlk h98 h88 h89 h38
    -- behind the update: the text is written out of the cache
    have hfin : ∀ a' w3, FrR b r j c i a' → a'.tmps.getD 3 undef = pt q → Enc B b (plR d) w0 l w3 → Code.wp Tryz.prog (cat [1, 1, 1, 1, 1, 1, 1, 1, 1, 1, 1, 1, 1, 1, 1, 1, 1, 1, 1, 1, 1, 0, 1, 0, 0, 1, 0, 0, 1, 1, 1, 1, 1, 1, 1, 1, 1, 1, 1, 0, 1, 1, 1, 1] encB) (Exit.then (fun a w => Code.wp Tryz.prog (cat [1, 1, 1, 1, 1, 1, 1, 1, 1, 1, 1, 1, 1, 1, 1, 1, 1, 1, 1, 1, 1, 0, 1, 0, 0, 1, 0, 0, 1, 1, 1, 1, 1, 1, 1, 1, 1, 1, 1, 1] encB) Q a w) Q) a' (putB w3 r (cacheObj (durT d.asI) (cs ++ [s.e]))) := by
      intro a' w3 hF h3 hE3
      have hm3 : w3.heap[r]? = some (cacheObj (durT d.asI) cs) := hE3.oth r _ hmap (fun e => hrb (Option.some.inj e)) (fun c fz e => by cases e)
      have hr5 := putB_same w3 r (cacheObj (durT d.asI) (cs ++ [s.e])) (Array.getElem?_eq_some_iff.1 hm3).1
      have hcell : Cells b w0 (putB w3 r (cacheObj (durT d.asI) (cs ++ [s.e]))) := hE3.cells.trans (cells_putB hm3 _)
      have hB5 : Below B w0 (putB w3 r (cacheObj (durT d.asI) (cs ++ [s.e]))) := hE3.bel.trans ((Below.refl B w3).grown (putB_grown w3 r _) hE3.low (fun k e => by cases e; exact hrB))
      have hE5 : Enc B b (plR d) (putB w3 r (cacheObj (durT d.asI) (cs ++ [s.e]))) l (putB w3 r (cacheObj (durT d.asI) (cs ++ [s.e]))) := Enc.turned hE3 hm3 hrB hrb (putB_grown w3 r _)
      generalize putB w3 r (cacheObj (durT d.asI) (cs ++ [s.e])) = W at *
      have hcs' : ∀ x ∈ cs ++ [s.e], x < 4000 := fun x hx => by
        rcases List.mem_append.1 hx with hx | hx
        · exact hcs x hx
        · rw [List.mem_singleton.1 hx]; exact he4
      have hq5 := hcell q _ _ hqb (by decide) hq
      change Code.wp _ (Code.region _ _ _) _ _ _
      refine wp_region_still_tail 9 hmix (by kernel_rfl) ?_
      change wpStill _ _ W.drew _ _ _
      have hlk := (look_yes (durT d.asI) s.e r he4 W.drew (cs ++ [s.e]) hcs' hr5 (List.mem_append_right _ List.mem_cons_self)).2
      refine st_addr faBuf hF.p (by rw [hF.size]; decide) fun a1 u1 h1 => ?_
      have hF1 := hF.up u1 (by decide)
      refine st_o (ex_mv hF1.s4) (by rw [hF1.size]; decide) fun a2 u2 h2 => ?_
      have hF2 := hF1.up u2 (by decide)
      have h32 := u2.var 3 (by decide) (u1.var 3 (by decide) h3)
      refine st_path1 (fun _ _ => by kernel_rfl) (fun _ => by kernel_rfl) h32 (hq5.drew.cell 3) (by rw [hF2.size]; decide) fun a3 u3 h3' => ?_
      have hF3 := hF2.up u3 (by decide)
      have h3'' : a3.eval (.tmp 970) = .float .f64 (fb s.e) := h3'
      refine st_o (ex_look (u3.var 966 (by decide) h2) h3'' hlk) (by rw [hF3.size]; decide) fun a4 u4 h4 => ?_
      have hF4 := hF3.up u4 (by decide)
      refine wl_c (ex_call cfWS) (R := fun _ w' => Enc B b (plR d) W (l ++ durT d.asI s.e) w') ?_ ?_
      · have e1 : a4.eval (.tmp 965) = .pointer (some ⟨b, 17, none⟩) := u4.var 965 (by decide) (u3.var 965 (by decide) (u2.var 965 (by decide) h1))
        have e2 : a4.eval (.tmp 971) = .string (bs (durT d.asI s.e)) := h4
        have e : (#[Operand.tmp 965, Operand.tmp 971] : Array Operand).map a4.eval = #[.pointer (some ⟨b, 17, none⟩), .string (bs (durT d.asI s.e))] := by
          simp only [List.map_toArray, List.map_cons, List.map_nil, e1, e2]
        rw [e]
        exact (enc_ws _ hE5.drew (by have := hE0.len; have h3 : (bs (durT d.asI s.e)).size = (durT d.asI s.e).length := rfl; omega)).mono fun _ _ h => ⟨_, h.1, h.2⟩
      · intro v w' h
        have u5 := Up.put a4 v (Nat.le_refl 972)
        exact hK2 _ _ W (cs ++ [s.e]) (hF4.up u5 (by decide)) (u5.var 3 (by decide) (u4.var 3 (by decide) (u3.var 3 (by decide) h32))) hB5 hcell hcs' hr5 (EL.app hE0.len hT h)
    refine t_val (fun _ _ => by kernel_rfl) (fun _ => by kernel_rfl) hF9.p (hE0.cell 10 (by decide)) (v := .bool d.asI) (hv := rfl) (hsz := by rw [hF9.size]; decide) (hT := fun hqt a10 u10 => ?_) (hN := fun hqt a10 u10 => ?_)
    · have hF10 := hF9.up u10 (by decide)
      have h310 := u10.var 3 (by decide) h39
      have hdt : durT d.asI s.e = Lib.decDigits ((s.e + 7) / 8) := by unfold durT; rw [hqt]; rfl
      have hSc : ∀ l' w', Enc B b (plR d) w0 l' w' → w'.cell? ⟨q, 3, none⟩ = some (.float .f64 (fb s.e)) := fun l' w' h => Blk.cell (h.block hq hqb (by decide)) 3
      refine rg_mix (S := fun w => w.cell? ⟨q, 3, none⟩ = some (.float .f64 (fb s.e))) 9 (by simp) hmix (by kernel_rfl) (hSc _ _ hE0.enc.drew) ?_
      refine mh_o (fun _ _ => ex_mv hF10.s4) (by rw [hF10.size]; decide) fun a11 u11 h11 => ?_
      have hF11 := hF10.up u11 (by decide)
      have h311 := u11.var 3 (by decide) h310
      refine mh_path1 (fun _ _ => by kernel_rfl) (fun _ => by kernel_rfl) h311 (fun _ h => h) (by rw [hF11.size]; decide) fun a12 u12 h12 => ?_
      have hF12 := hF11.up u12 (by decide)
      have h312 := u12.var 3 (by decide) h311
      refine mh_path1 (fun _ _ => by kernel_rfl) (fun _ => by kernel_rfl) h312 (fun _ h => h) (by rw [hF12.size]; decide) fun a13 u13 h13 => ?_
      have hF13 := hF12.up u13 (by decide)
      have h313 := u13.var 3 (by decide) h312
      have hm1 := u13.var 941 (by decide) (u12.var 941 (by decide) h11)
      have hm2 : a13.tmps.getD 945 undef = .float .f64 (fb s.e) := u13.var 945 (by decide) h12
      refine mt_c (ex_call (fun _ _ => by kernel_rfl)) (R := fun v w' => v = .float .f64 (fn ((s.e + 7) / 8)) ∧ Enc B b (plR d) w0 l w') ?_ ?_
      · have e2 : a13.eval (.tmp 949) = .float .f64 (fb s.e) := h13
        have e : (#[Operand.tmp 949] : Array Operand).map a13.eval = #[.float .f64 (fb s.e)] := by
          simp only [List.map_toArray, List.map_cons, List.map_nil, e2]
        rw [e]
        have h := ceil_any (fb s.e) (flo_nan he4) w.drew
        rw [flo_ceil he4] at h
        exact h.mono fun _ w' h => ⟨_, h.1, rfl, by rw [← h.2]; exact hE0.enc.drew⟩
      rintro v' w1 ⟨rfl, hE1⟩
      refine ⟨hSc _ _ hE1, ?_⟩
      have u14 := Up.put a13 (.float .f64 (fn ((s.e + 7) / 8))) (Nat.le_refl 950)
      have hF14 := hF13.up u14 (by decide)
      have e14 : (a13.put (some 950) (.float .f64 (fn ((s.e + 7) / 8)))).eval (.tmp 950) = .float .f64 (fn ((s.e + 7) / 8)) := put_get _ (by rw [hF13.size]; decide)
      have h314 := u14.var 3 (by decide) h313
      have hm14 := u14.var 941 (by decide) hm1
      have hm24 := u14.var 945 (by decide) hm2
      generalize a13.put (some 950) (.float .f64 (fn ((s.e + 7) / 8))) = a14 at *
      have hcv : (convert 24 2 (.float .f64 (fn ((s.e + 7) / 8)))).run Tryz.prog w1 = .ok (.int .i64 ((s.e + 7) / 8 : Nat)) w1 := run_convert_float_int (P := Tryz.prog) w1 24 2 .f64 .i64 (fn ((s.e + 7) / 8)) ((s.e + 7) / 8 : Nat) (by rw [Tryz.underlying24]; rfl) Tryz.underlying2 (flo_int (by omega))
      refine mt_v (ex_conv e14 hcv) ⟨hSc _ _ hE1, ?_⟩
      have u15 := Up.put a14 (.int .i64 ((s.e + 7) / 8 : Nat)) (Nat.le_refl 951)
      have hF15 := hF14.up u15 (by decide)
      have e15 : (a14.put (some 951) (.int .i64 ((s.e + 7) / 8 : Nat))).eval (.tmp 951) = .int .i64 ((s.e + 7) / 8 : Nat) := put_get _ (by rw [hF14.size]; decide)
      have h315 := u15.var 3 (by decide) h314
      have hm15 := u15.var 941 (by decide) hm14
      have hm25 := u15.var 945 (by decide) hm24
      generalize a14.put (some 951) (.int .i64 ((s.e + 7) / 8 : Nat)) = a15 at *
      refine mt_c (ex_call (fun _ _ => by kernel_rfl)) (R := fun v w' => v = .string (bs (durT d.asI s.e)) ∧ Enc B b (plR d) w0 l w') ?_ ?_
      · have e : (#[Operand.tmp 951, Operand.const (.int .i64 10)] : Array Operand).map a15.eval = #[.int .i64 ((s.e + 7) / 8 : Nat), .int .i64 10] := by
          simp only [List.map_toArray, List.map_cons, List.map_nil, e15, ev_const]
        rw [e, hdt]
        exact (fi_any ((s.e + 7) / 8) (by omega) htab hgt _ hE1).mono fun _ _ h => ⟨_, h.1, rfl, h.2⟩
      rintro v' w3 ⟨rfl, hE3⟩
      refine ⟨hSc _ _ hE3, ?_⟩
      have u16 := Up.put a15 (.string (bs (durT d.asI s.e))) (Nat.le_refl 952)
      have hF16 := hF15.up u16 (by decide)
      have e16 : (a15.put (some 952) (.string (bs (durT d.asI s.e)))).eval (.tmp 952) = .string (bs (durT d.asI s.e)) := put_get _ (by rw [hF15.size]; decide)
      have h316 := u16.var 3 (by decide) h315
      have hm16 : (a15.put (some 952) (.string (bs (durT d.asI s.e)))).eval (.tmp 941) = .map (some r) := u16.var 941 (by decide) hm15
      have hm26 : (a15.put (some 952) (.string (bs (durT d.asI s.e)))).eval (.tmp 945) = .float .f64 (fb s.e) := u16.var 945 (by decide) hm25
      generalize a15.put (some 952) (.string (bs (durT d.asI s.e))) = a16 at *
      have hm3 : w3.heap[r]? = some (cacheObj (durT d.asI) cs) := hE3.oth r _ hmap (fun e => hrb (Option.some.inj e)) (fun c fz e => by cases e)
      refine mt_u hm16 hm26 e16 (cache_put (durT d.asI) s.e r he4 w3 cs hcs hm3 hno) ⟨?_, hfin _ _ hF16 h316 hE3⟩
      exact Blk.cell (cells_putB hm3 _ q _ _ hqb (by decide) (hE3.block hq hqb (by decide))) 3
    · have he160 : s.e < 160 ∧ FF32 := by
        rcases he with ⟨h, _⟩ | h
        · rw [h] at hqt; cases hqt
        · exact h
      have hF10 := hF9.up u10 (by decide)
      have h310 := u10.var 3 (by decide) h39
      have hdt : durT d.asI s.e = sec3 s.e := by unfold durT; rw [hqt]; rfl
      have hSc : ∀ l' w', Enc B b (plR d) w0 l' w' → w'.cell? ⟨q, 3, none⟩ = some (.float .f64 (fb s.e)) := fun l' w' h => Blk.cell (h.block hq hqb (by decide)) 3
      refine rg_mix (S := fun w => w.cell? ⟨q, 3, none⟩ = some (.float .f64 (fb s.e))) 9 (by simp) hmix (by kernel_rfl) (hSc _ _ hE0.enc.drew) ?_
      refine mh_o (fun _ _ => ex_mv hF10.s4) (by rw [hF10.size]; decide) fun a11 u11 h11 => ?_
      have hF11 := hF10.up u11 (by decide)
      have h311 := u11.var 3 (by decide) h310
      refine mh_path1 (fun _ _ => by kernel_rfl) (fun _ => by kernel_rfl) h311 (fun _ h => h) (by rw [hF11.size]; decide) fun a12 u12 h12 => ?_
      have hF12 := hF11.up u12 (by decide)
      have h312 := u12.var 3 (by decide) h311
      refine mh_path1 (fun _ _ => by kernel_rfl) (fun _ => by kernel_rfl) h312 (fun _ h => h) (by rw [hF12.size]; decide) fun a13 u13 h13 => ?_
      have hF13 := hF12.up u13 (by decide)
      have h313 := u13.var 3 (by decide) h312
      have hm1 := u13.var 953 (by decide) (u12.var 953 (by decide) h11)
      have hm2 : a13.tmps.getD 957 undef = .float .f64 (fb s.e) := u13.var 957 (by decide) h12
      refine mt_c (ex_call (fun _ _ => by kernel_rfl)) (R := fun v w' => v = .string (bs (durT d.asI s.e)) ∧ Enc B b (plR d) w0 l w') ?_ ?_
      · have e2 : a13.eval (.tmp 961) = .float .f64 (fb s.e) := h13
        have e : (#[Operand.tmp 961, Operand.const (.int .u8 102), Operand.const (.int .i64 3), Operand.const (.int .i64 32)] : Array Operand).map a13.eval = #[.float .f64 (fb s.e), .int .u8 102, .int .i64 3, .int .i64 32] := by
          simp only [List.map_toArray, List.map_cons, List.map_nil, e2, ev_const]
        rw [e, hdt]
        exact (he160.2 s.e he160.1 htab hgt _ hE0.enc.drew).mono fun _ _ h => ⟨_, h.1, rfl, h.2⟩
      rintro v' w3 ⟨rfl, hE3⟩
      refine ⟨hSc _ _ hE3, ?_⟩
      have u16 := Up.put a13 (.string (bs (durT d.asI s.e))) (Nat.le_refl 962)
      have hF16 := hF13.up u16 (by decide)
      have e16 : (a13.put (some 962) (.string (bs (durT d.asI s.e)))).eval (.tmp 962) = .string (bs (durT d.asI s.e)) := put_get _ (by rw [hF13.size]; decide)
      have h316 := u16.var 3 (by decide) h313
      have hm16 : (a13.put (some 962) (.string (bs (durT d.asI s.e)))).eval (.tmp 953) = .map (some r) := u16.var 953 (by decide) hm1
      have hm26 : (a13.put (some 962) (.string (bs (durT d.asI s.e)))).eval (.tmp 957) = .float .f64 (fb s.e) := u16.var 957 (by decide) hm2
      generalize a13.put (some 962) (.string (bs (durT d.asI s.e))) = a16 at *
      have hm3 : w3.heap[r]? = some (cacheObj (durT d.asI) cs) := hE3.oth r _ hmap (fun e => hrb (Option.some.inj e)) (fun c fz e => by cases e)
      refine mt_u hm16 hm26 e16 (cache_put (durT d.asI) s.e r he4 w3 cs hcs hm3 hno) ⟨?_, hfin _ _ hF16 h316 hE3⟩
      exact Blk.cell (cells_putB hm3 _ q _ _ hqb (by decide) (hE3.block hq hqb (by decide))) 3

end
end Go.Proofs.YtlphcidpaidclaaGreatDoor
