/-
  What WriteMedia needs: its arithmetic, segments as data in a slice, AppendSegment in one sentence, String.
-/
import Derived.Test.YtlphcidpaidclaaGreatDoorAps
import Derived.Outline
import Derived.Deep.RegionHeld3
namespace Go.Proofs.YtlphcidpaidclaaGreatDoor
open Go.RowKit
set_option maxRecDepth 100000

theorem inBlock_exit {id : Nat} {Q : Exit → Act → World → Prop} {a : Act} {w : World} (h : Q .normal a w) : Exit.inBlock id Q (.exit id) a w := by
  simp only [Exit.inBlock, if_true]; exact h
theorem wp_loop_once {P : Program} {Q : Exit → Act → World → Prop} {a : Act} {w : World} {c : Code} (h : c.wp P (Exit.then (fun _ _ => False) Q) a w) : (Code.loop c).wp P Q a w :=
  wp_loop (fun a' w' => a' = a ∧ w' = w) (fun _ _ => 0) ⟨rfl, rfl⟩ fun a' w' ⟨e1, e2⟩ => by
    subst e1; subst e2
    refine Code.wp_mono ?_ h
    intro e a w h
    cases e <;> first | exact h.elim | exact h

section
variable {x y : Operand}
theorem bo_gtri (m n : Int) (w : World) : (do eqGuard .gtr 3 x y (.int .i64 m) (.int .i64 n); binOp .gtr 3 (.int .i64 m) (.int .i64 n) : Sem Value).run Tryz.prog w = .ok (.bool (decide (n < m))) w := by
  simp [go_sem]
theorem bo_lssi (m n : Int) (w : World) : (do eqGuard .lss 3 x y (.int .i64 m) (.int .i64 n); binOp .lss 3 (.int .i64 m) (.int .i64 n) : Sem Value).run Tryz.prog w = .ok (.bool (decide (m < n))) w := by
  simp [go_sem]
theorem bo_addi (m n : Int) (w : World) (h0 : 0 ≤ m + n) (h1 : m + n < 9223372036854775808) : (do eqGuard .add 3 x y (.int .i64 m) (.int .i64 n); binOp .add 3 (.int .i64 m) (.int .i64 n) : Sem Value).run Tryz.prog w = .ok (.int .i64 (m + n)) w := by
  simp [go_sem]
  rw [IntKind.wrap_i64]; omega
theorem cv_iu (n : Nat) (hn : n < 9223372036854775808) (w : World) : (convert 3 50 (.int .i64 n)).run Tryz.prog w = .ok (.int .u64 n) w := by
  simp [go_sem]
  rw [IntKind.wrap_u64]; omega
theorem cv_ity (n : Nat) (hn : n < 9223372036854775808) (w : World) : (convert 3 62 (.int .i64 n)).run Tryz.prog w = .ok (.int .u64 n) w := by
  simp [go_sem]
  rw [IntKind.wrap_u64]; omega
theorem cv_iu8 (n : Nat) (hn : n < 256) (w : World) : (convert 3 5 (.int .i64 n)).run Tryz.prog w = .ok (.int .u8 n) w := by
  simp [go_sem]
  rw [IntKind.wrap_u8]; omega
end
theorem max_run {ats : Array TypeId} {ty : TypeId} {cs : Array Bool} (n : Nat) (w : World) : (builtin .max ats ty cs #[.int .i64 1, .int .i64 n]).run Tryz.prog w = .ok (.value (.int .i64 (max 1 n : Nat))) w := by
  rcases Nat.lt_or_ge 1 n with h | h
  · simp [go_sem]
    omega
  · simp [go_sem]
    omega

theorem fn_fb_all : ∀ n : Fin 501, fn n.val = fb (8 * n.val) := by decide +kernel
theorem fn_fb {n : Nat} (h : n < 501) : fn n = fb (8 * n) := fn_fb_all ⟨n, h⟩
theorem plain_fn {T : Nat} (hT : T < 500) (w : World) : Calls Tryz.prog 13 #[.float .f64 (fn T)] w fun e w' => e = .returned (.bool true) ∧ w = w' := by
  rw [fn_fb (by omega)]; exact plain_any _ (by omega) _
theorem td_ord {T e : Nat} (hT : T < 500) (he : e < 4000) : (FloatKind.f64.format.order (fn T) (fb e) == some .lt) = decide (8 * T < e) := by
  rw [fn_fb (by omega), flo_ord (by omega) he]
  by_cases h : 8 * T < e
  · rw [Nat.compare_eq_lt.2 h, decide_eq_true h]; rfl
  · rw [decide_eq_false h]
    rcases Nat.eq_or_lt_of_le (Nat.le_of_not_lt h) with h2 | h2
    · rw [Nat.compare_eq_eq.2 h2.symm]; rfl
    · rw [Nat.compare_eq_gt.2 h2]; rfl

theorem KeySl.one {w : World} {v : Value} {k : Option KeyD} (h : KeySl w v k) : v.oneCell' = true := by cases h <;> rfl
theorem MapSl.one {w : World} {v : Value} {k : Option MapD} (h : MapSl w v k) : v.oneCell' = true := by cases h <;> rfl
/-- segments in a slice -/
inductive SegSl (w : World) : Value → List SegD → Prop
  | nil : SegSl w (.slice none 0 0) []
  | mk {g c : Nat} {cells : Array Value} {segs : List SegD} (h : Blk w g 30 cells) (hn : segs.length ≤ c) (he : ∀ i s, segs[i]? = some s → ∃ kv mv, (∀ k, k < 11 → cells[11 * i + k]? = (segD 0 s kv mv)[k]?) ∧ KeySl w kv s.key ∧ MapSl w mv s.map) :
    SegSl w (.slice (some ⟨g, 0, none⟩) segs.length c) segs
theorem SegSl.len {w : World} {v : Value} {segs : List SegD} {ty : TypeId} {cs : Array Bool} (h : SegSl w v segs) (w' : World) : (builtin .len #[34] ty cs #[v]).run Tryz.prog w' = .ok (.value (.int .i64 segs.length)) w' := by
  cases h with
  | nil => kernel_rfl
  | mk h hn he => kernel_rfl
theorem ixs_run (g n c j : Nat) (hj : j < n) (w : World) : (Instr.indexAt 34 (.slice (some ⟨g, 0, none⟩) n c) (.int .i64 j)).run Tryz.prog w = .ok (.pointer (some ⟨g, 11 * j, none⟩)) w := by
  have h1 : (j : Int) < (n : Int) := by omega
  have h2 : (0 : Int) ≤ (j : Int) := by omega
  simp [go_sem, h1, h2]
/-- one element: its address, its fields -/
theorem SegSl.elem {w : World} {v : Value} {segs : List SegD} {j : Nat} (h : SegSl w v segs) (hj : j < segs.length) :
    ∃ ad kv mv, (∀ w', (Instr.indexAt 34 v (.int .i64 j)).run Tryz.prog w' = .ok (.pointer (some ad)) w') ∧ (∀ w', Kp [] w w' → (Instr.loadAt 30 (.pointer (some ad))).run Tryz.prog w' = .ok (.agg (segD 0 segs[j] kv mv)) w') ∧ KeySl w kv segs[j].key ∧ MapSl w mv segs[j].map := by
  cases h with
  | nil => cases hj
  | mk h hn he =>
    rename_i g c cells
    obtain ⟨kv, mv, hc, hk, hm⟩ := he j segs[j] (List.getElem?_eq_getElem hj)
    refine ⟨⟨g, 11 * j, none⟩, kv, mv, fun w' => ixs_run g _ c j hj w', fun w' K => ?_, hk, hm⟩
    exact ld_agg (n := 11) (fun _ => by kernel_rfl) (fun _ => by kernel_rfl) (h.kp K (by simp)) rfl hc

section
variable {w w' : World} {k : Option KeyD} {m : Option MapD} {lo b : Nat} {kp : Option Nat} {cs cg : Array Value} {g : Nat}
theorem KeyP.gs (h : KeyP w lo kp k) (hb : Blk w b 70 cs) (G : w.grownBy w' (some b)) : KeyP w' lo kp k := by
  cases h with
  | nil => exact .nil
  | mk h hp ok => exact .mk (h.gk G (h.ne_ hb (by decide))) hp ok
theorem MapP.gs (h : MapP w lo kp m) (hb : Blk w b 70 cs) (G : w.grownBy w' (some b)) : MapP w' lo kp m := by
  cases h with
  | nil => exact .nil
  | mk h hp ok => exact .mk (h.gk G (h.ne_ hb (by decide))) hp ok
theorem KeyP.kp2 (h : KeyP w lo kp k) (hb : Blk w b 70 cs) (hg : Blk w g 74 cg) (K : Kp [b, g] w w') : KeyP w' lo kp k := by
  cases h with
  | nil => exact .nil
  | mk h hp ok => exact .mk (h.kp K (by simp [h.ne_ hb (by decide), h.ne_ hg (by decide)])) hp ok
theorem MapP.kp2 (h : MapP w lo kp m) (hb : Blk w b 70 cs) (hg : Blk w g 74 cg) (K : Kp [b, g] w w') : MapP w' lo kp m := by
  cases h with
  | nil => exact .nil
  | mk h hp ok => exact .mk (h.kp K (by simp [h.ne_ hb (by decide), h.ne_ hg (by decide)])) hp ok
theorem KeyP.kp3 {q : Nat} {cq : Array Value} (h : KeyP w lo kp k) (hb : Blk w b 70 cs) (hg : Blk w g 74 cg) (hq : Blk w q 96 cq) (K : Kp [b, g, q] w w') : KeyP w' lo kp k := by
  cases h with
  | nil => exact .nil
  | mk h hp ok => exact .mk (h.kp K (by simp [h.ne_ hb (by decide), h.ne_ hg (by decide), h.ne_ hq (by decide)])) hp ok
theorem MapP.kp3 {q : Nat} {cq : Array Value} (h : MapP w lo kp m) (hb : Blk w b 70 cs) (hg : Blk w g 74 cg) (hq : Blk w q 96 cq) (K : Kp [b, g, q] w w') : MapP w' lo kp m := by
  cases h with
  | nil => exact .nil
  | mk h hp ok => exact .mk (h.kp K (by simp [h.ne_ hb (by decide), h.ne_ hg (by decide), h.ne_ hq (by decide)])) hp ok
theorem KeyP.lt (h : KeyP w lo kp k) : ∀ x, kp = some x → x < w.heap.size := by
  cases h with
  | nil => exact fun _ e => by cases e
  | mk h hp ok => exact fun x e => by cases e; exact h.lt
theorem KeyP.ok_ (h : KeyP w lo kp k) : ∀ x, k = some x → x.Ok := by
  cases h with
  | nil => exact fun _ e => by cases e
  | mk h hp ok => exact fun x e => by cases e; exact ok
theorem MapP.ok_ (h : MapP w lo kp m) : ∀ x, m = some x → x.Ok := by
  cases h with
  | nil => exact fun _ e => by cases e
  | mk h hp ok => exact fun x e => by cases e; exact ok
theorem KeyP.inn (h : KeyP w lo kp k) (hb : Blk w b 70 cs) : KeyIn w b kp k := by
  cases h with
  | nil => exact .nil
  | mk h hp ok => exact .mk h (h.ne_ hb (by decide)) ok
theorem MapP.inn (h : MapP w lo kp m) (hb : Blk w b 70 cs) : MapIn w b kp m := by
  cases h with
  | nil => exact .nil
  | mk h hp ok => exact .mk h (h.ne_ hb (by decide)) ok
end

/-- the first n segments behind their pointers, their own keys below hi -/
def SegsAt (w : World) (lo hi seq : Nat) (segs : List SegD) (n : Nat) (arr : Array Value) : Prop :=
  ∀ i s, i < n → segs[i]? = some s → ∃ q kp mp, arr[i]? = some (pt q) ∧ lo ≤ q ∧ Blk w q 96 (segC (seq + i) s kp mp) ∧ KeyP w lo kp s.key ∧ MapP w lo mp s.map ∧ ∀ x, kp = some x → x < hi
section
variable {w w' : World} {lo hi hi' seq n b g : Nat} {segs : List SegD} {arr cs cg : Array Value}
theorem SegsAt.zero : SegsAt w lo hi seq segs 0 arr := fun _ _ h => by omega
theorem SegsAt.gn (h : SegsAt w lo hi seq segs n arr) (G : w.grownBy w' none) : SegsAt w' lo hi seq segs n arr := fun i s hi hs => by
  obtain ⟨q, kp, mp, h1, h2, h3, h4, h5, h6⟩ := h i s hi hs
  exact ⟨q, kp, mp, h1, h2, h3.gn G, h4.gn G, h5.gn G, h6⟩
theorem SegsAt.gs (h : SegsAt w lo hi seq segs n arr) (hb : Blk w b 70 cs) (G : w.grownBy w' (some b)) : SegsAt w' lo hi seq segs n arr := fun i s hi hs => by
  obtain ⟨q, kp, mp, h1, h2, h3, h4, h5, h6⟩ := h i s hi hs
  exact ⟨q, kp, mp, h1, h2, h3.gk G (h3.ne_ hb (by decide)), h4.gs hb G, h5.gs hb G, h6⟩
theorem SegsAt.kp2 (h : SegsAt w lo hi seq segs n arr) (hb : Blk w b 70 cs) (hg : Blk w g 74 cg) (K : Kp [b, g] w w') : SegsAt w' lo hi seq segs n arr := fun i s hi hs => by
  obtain ⟨q, kp, mp, h1, h2, h3, h4, h5, h6⟩ := h i s hi hs
  exact ⟨q, kp, mp, h1, h2, h3.kp K (by simp [h3.ne_ hb (by decide), h3.ne_ hg (by decide)]), h4.kp2 hb hg K, h5.kp2 hb hg K, h6⟩
theorem SegsAt.snoc {s : SegD} {q : Nat} {kp mp : Option Nat} (h : SegsAt w lo hi seq segs n arr) (hn : n < arr.size) (hs : segs[n]? = some s) (h1 : hi ≤ hi') (hq : lo ≤ q) (hb : Blk w q 96 (segC (seq + n) s kp mp)) (hk : KeyP w lo kp s.key) (hm : MapP w lo mp s.map)
    (hx : ∀ x, kp = some x → x < hi') : SegsAt w lo hi' seq segs (n + 1) (arr.setIfInBounds n (pt q)) := fun i s' hi hs' => by
  rcases Nat.lt_or_ge i n with hlt | hge
  · obtain ⟨q, kp, mp, h3, h4, h5, h6, h7, h8⟩ := h i s' hlt hs'
    exact ⟨q, kp, mp, by rw [Array.getElem?_setIfInBounds_ne (by omega)]; exact h3, h4, h5, h6, h7, fun x e => Nat.lt_of_lt_of_le (h8 x e) h1⟩
  · obtain rfl : i = n := by omega
    rw [hs] at hs'
    obtain rfl := Option.some.inj hs'
    exact ⟨q, kp, mp, by simp [hn], hq, hb, hk, hm, hx⟩
end

/-- the longest duration, rounded up -/
def tmax (T : Nat) (segs : List SegD) : Nat := segs.foldl (fun T s => max T ((s.e + 7) / 8)) T
theorem tmax_snoc (T : Nat) (segs : List SegD) (j : Nat) (hj : j < segs.length) : tmax T (segs.take (j + 1)) = max (tmax T (segs.take j)) ((segs[j].e + 7) / 8) := by
  unfold tmax
  rw [List.take_succ_eq_append_getElem hj, List.foldl_append]
  rfl

/-- AppendSegment where there is a place -/
theorem app_any {b g q cap seq t T e : Nat} {arr : Array Value} {c3 c4 c5 c6 c7 c8 c9 c10 c11 c12 c20 c21 c22 s0 s1 s2 s4 s5 s6 s7 s8 s9 s10 : Value} {w0 : World}
    (hb : Blk w0 b 70 #[.float .f64 (fn T), .int .u64 seq, .slice (some ⟨g, 0, none⟩) cap cap, c3, c4, c5, c6, c7, c8, c9, c10, c11, c12, .int .u64 cap, .int .u64 0, .int .u64 t, .int .u64 t, .slice none 0 0, .int .i64 0, .int .i8 0, c20, c21, c22])
    (hg : Blk w0 g 74 arr) (hq : Blk w0 q 96 #[s0, s1, s2, .float .f64 (fb e), s4, s5, s6, s7, s8, s9, s10]) (hc1 : cap ≤ 1024) (hin : t < arr.size) (htc : t < cap) (hT : T < 500) (he : e < 4000) (hseq : seq + t < 18446744073709551616)
    (hprev : ∀ j, t = j + 1 → ∃ v s kp mp, arr[j]? = some (pt v) ∧ Blk w0 v 96 (segC (seq + j) s kp mp) ∧ v ≠ q) :
    Calls Tryz.prog 15 #[pt b, pt q] w0 fun r w' => r = .returned .nilIface ∧
      Blk w' b 70 #[.float .f64 (fn (max T ((e + 7) / 8))), .int .u64 seq, .slice (some ⟨g, 0, none⟩) cap cap, c3, c4, c5, c6, c7, c8, c9, c10, c11, c12, .int .u64 cap, .int .u64 0, .int .u64 ((t + 1) % cap : Nat), .int .u64 (t + 1 : Nat), .slice none 0 0, .int .i64 0, .int .i8 0, c20, c21, c22] ∧
      Blk w' g 74 (arr.setIfInBounds t (pt q)) ∧ Blk w' q 96 #[.int .u64 (seq + t : Nat), s1, s2, .float .f64 (fb e), s4, s5, s6, s7, s8, s9, s10] ∧ Kp [b, g, q] w0 w' := by
  have hgb := hg.ne_ hb (by decide)
  have hqb := hq.ne_ hb (by decide)
  have hgq := hg.ne_ hq (by decide)
  have hord := td_ord hT he
  have hmod : (((t + 1) % cap : Nat) : Int) = ((t : Int) + 1) % cap := rfl
  cases t with
  | zero =>
    by_cases h : 8 * T < e
    · rw [decide_eq_true h] at hord
      have := app_first_up hb hg hq hgb hqb hgq (by omega) hc1 hin hord (flo_nan he)
      rw [flo_ceil he] at this
      rw [show max T ((e + 7) / 8) = (e + 7) / 8 from by omega, hmod]
      exact this
    · rw [decide_eq_false h] at hord
      have := app_first hb hg hq hgb hqb hgq (by omega) hc1 hin hord
      rw [show max T ((e + 7) / 8) = T from by omega, hmod]
      exact this
  | succ j =>
    obtain ⟨v, s, kp, mp, hv1, hv2, hvq⟩ := hprev j rfl
    have hvb := hv2.ne_ hb (by decide)
    have hgv := hg.ne_ hv2 (by decide)
    have hnum : ((seq + (j + 1) : Nat) : Int) = ((seq + j : Nat) : Int) + 1 := by omega
    by_cases h : 8 * T < e
    · rw [decide_eq_true h] at hord
      have := app_more_up hb hg hq hgb hqb hgq (by omega) hc1 hv2 hvb hvq hgv rfl htc hin hv1 (by omega) hord (flo_nan he)
      rw [flo_ceil he] at this
      rw [show max T ((e + 7) / 8) = (e + 7) / 8 from by omega, hmod, hnum]
      exact this
    · rw [decide_eq_false h] at hord
      have := app_more hb hg hq hgb hqb hgq (by omega) hc1 hv2 hvb hvq hgv rfl htc hin hv1 (by omega) hord
      rw [show max T ((e + 7) / 8) = T from by omega, hmod, hnum]
      exact this
theorem Kp.trans3 {b g q : Nat} {w w1 w2 : World} (h : Kp [b, g] w w1) (h1 : Kp [b, g, q] w1 w2) (hq : w.heap.size ≤ q) : Kp [b, g] w w2 :=
  ⟨h1.os.trans h.os, h1.tape.trans h.tape, h1.output.trans h.output, Nat.le_trans h.size h1.size, fun k hk hD => (h1.block k (Nat.lt_of_lt_of_le hk h.size) (fun hm => by
    simp only [List.mem_cons, List.not_mem_nil, or_false] at hm hD
    rcases hm with e | e | e
    · exact hD (Or.inl e)
    · exact hD (Or.inr e)
    · omega)).trans (h.block k hk hD)⟩
theorem Kp.trans0 {b g : Nat} {w w1 w2 : World} (h : Kp [] w w1) (h1 : Kp [b, g] w1 w2) (hb : w.heap.size ≤ b) (hg : w.heap.size ≤ g) : Kp [] w w2 :=
  ⟨h1.os.trans h.os, h1.tape.trans h.tape, h1.output.trans h.output, Nat.le_trans h.size h1.size, fun k hk hD => (h1.block k (Nat.lt_of_lt_of_le hk h.size) (fun hm => by
    simp only [List.mem_cons, List.not_mem_nil, or_false] at hm
    rcases hm with e | e <;> omega)).trans (h.block k hk hD)⟩

theorem Enc.ofBlk {B b : Nat} {R : Nat → Option Value} {w : World} {cs : Array Value} (h : Blk w b 70 cs) (h17 : cs[17]? = some (.slice none 0 0)) (h18 : cs[18]? = some (.int .i64 0)) (h19 : cs[19]? = some (.int .i8 0)) (hR : ∀ i, (i < 17 ∨ 20 ≤ i) → cs[i]? = R i) (hB : B ≤ b) : Enc B b R w [] w :=
  Enc.start (by have := h.lt; omega) ⟨hB, _, _, ⟨cs, h, h17, h18, h19, fun i hi => hR i (by omega)⟩, World.ownsRow_nil _ _ _ _, by simp [Value.ownBlock]⟩
theorem KeyP.ge {w : World} {lo : Nat} {kp : Option Nat} {k : Option KeyD} (h : KeyP w lo kp k) : ∀ x, kp = some x → lo ≤ x := by
  cases h with
  | nil => exact fun _ e => by cases e
  | mk h hp ok => exact fun x e => by cases e; exact hp
theorem MapP.none_ {w : World} {lo : Nat} {kp : Option Nat} {k : Option MapD} (h : MapP w lo kp k) : kp.isNone = k.isNone := by
  cases h <;> rfl
theorem SegsAt.inn {w : World} {lo hi seq b : Nat} {segs : List SegD} {arr cs : Array Value} {d : PlD} (h : SegsAt w lo hi seq segs segs.length arr) (hb : Blk w b 70 cs) (hok : ∀ s, s ∈ segs → s.Ok ∧ (d.asI = true ∧ s.e < 4000 ∨ s.e < 160 ∧ FF32)) (hk : ∀ x, d.kp = some x → hi ≤ x) : SegsIn w b d segs arr := fun j hj => by
  obtain ⟨q, kp, mp, h1, h2, h3, h4, h5, h6⟩ := h j segs[j] hj (List.getElem?_eq_getElem hj)
  obtain ⟨o1, o2⟩ := hok segs[j] (List.getElem_mem hj)
  exact ⟨q, h1, ⟨⟨kp, mp, _, h3.ne_ hb (by decide), h3, h4.inn hb, h5.inn hb, fun x e e' => by have := h6 x e; have := hk x e'; omega⟩, o1, o2⟩⟩
/-- (*MediaPlaylist).String -/
theorem string_any {B b : Nat} {d : PlD} {key : Option KeyD} {map : Option MapD} {ptrs : Array Value} {segs : List SegD} {w : World} (hdO : d.Ok) (hb : Blk w b 70 (plC d)) (hki : KeyIn w b d.kp key) (hmi : MapIn w b d.mp map)
    (hg : Blk w d.g 74 ptrs) (hcnt : d.cnt = segs.length) (hcc : d.cnt ≤ d.cap) (hcap : d.cap ≤ 1024) (hseg : SegsIn w b d segs ptrs) (htab : TabP w) (hgt : 7 < B) (hB : B ≤ b) :
    Calls Tryz.prog 21 #[pt b] w fun e w' => e = .returned (.string (bs (encT d key map segs))) ∧ Below B w w' := by
  have hE : Enc B b (plR d) w [] w := Enc.ofBlk hb rfl rfl rfl (fun i hi => rfl) hB
  have H1 := Lib.hid (encode_any hdO hki hmi hg (hg.ne_ hb (by decide)) hcnt hcc hcap hseg htab hgt hE)
  clear hE htab hb hg hki hmi hseg hcnt hcc hcap hdO
  generalize encT d key map segs = txt at *
  generalize plR d = R at *
  go_enter Tryz.func21, Tryz.ntmps21
  go_wp2_with fail
  refine H1.out.mono ?_
  rintro e w' ⟨rfl, w1, hB1, hE1⟩
  have HE := Lib.hid hE1
  clear hE1 H1
  go_wp2_with fail
  refine (enc_str HE.out).mono ?_
  rintro e w2 ⟨rfl, hE2⟩
  have HB0 := Lib.hid hB1
  have HG := Lib.hid hE2.bel
  clear hE2 hB1 HE
  go_wp2_with fail
  go_ret
  exact ⟨rfl, Below.trans HB0.out HG.out⟩
theorem asint_any {b : Nat} {c0 c1 c2 c3 c4 c5 c6 c7 c8 c9 c10 c11 c12 c13 c14 c15 c16 c17 c18 c19 c21 c22 : Value} {w0 : World} (wh : Bool) (hb : Blk w0 b 70 #[c0, c1, c2, c3, c4, c5, c6, c7, c8, c9, c10, c11, c12, c13, c14, c15, c16, c17, c18, c19, .int .u8 3, c21, c22]) :
    Calls Tryz.prog 19 #[pt b, .bool wh] w0 fun e w' => e = .returned (.tuple #[]) ∧ Blk w' b 70 #[c0, c1, c2, c3, c4, c5, c6, c7, c8, c9, .bool wh, c11, c12, c13, c14, c15, c16, c17, c18, c19, .int .u8 3, c21, c22] ∧ w0.grownBy w' (some b) := by
  cases wh
  · exact asint_false hb
  · exact asint_true hb
end Go.Proofs.YtlphcidpaidclaaGreatDoor
