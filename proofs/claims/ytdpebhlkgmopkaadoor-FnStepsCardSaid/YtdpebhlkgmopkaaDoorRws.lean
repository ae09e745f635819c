/-
 FnSteps: rows of plain elements, of segments and of steps; what lies below stays; a drawn region by what holds of what is done.
-/
import Derived.Test.YtdpebhlkgmopkaaDoorPst
namespace Go.Proofs.YtdpebhlkgmopkaaDoor
open Go.RowKit
set_option maxRecDepth 100000
section
variable {w w' : World} {lo b : Nat} {kp : Option Nat} {k : Option KeyD} {m : Option MapD} {v : Value}
theorem Blk.bl {g T : Nat} {c : Array Value} (h : Blk w g T c) (K : Below w.heap.size w w') : Blk w' g T c := (K.block g h.lt).trans h
theorem KeySl.bl (h : KeySl w v k) (K : Below w.heap.size w w') : KeySl w' v k := by
 cases h with
 | nil => exact .nil
 | mk h ok => exact .mk (h.bl K) ok
theorem MapSl.bl (h : MapSl w v m) (K : Below w.heap.size w w') : MapSl w' v m := by
 cases h with
 | nil => exact .nil
 | mk h ok => exact .mk (h.bl K) ok
theorem SKey.bl (h : SKey w kp k) (K : Below w.heap.size w w') : SKey w' kp k := by
 cases h with
 | nil => exact .nil
 | mk h ok => exact .mk (h.bl K) ok
theorem SMap.bl (h : SMap w kp m) (K : Below w.heap.size w w') : SMap w' kp m := by
 cases h with
 | nil => exact .nil
 | mk h ok => exact .mk (h.bl K) ok
theorem KeyP.bl (h : KeyP w lo kp k) (K : Below w.heap.size w w') : KeyP w' lo kp k := by
 cases h with
 | nil => exact .nil
 | mk h hp ok => exact .mk (h.bl K) hp ok
theorem MapP.bl (h : MapP w lo kp m) (K : Below w.heap.size w w') : MapP w' lo kp m := by
 cases h with
 | nil => exact .nil
 | mk h hp ok => exact .mk (h.bl K) hp ok
theorem ShR.bl {base e sz n : Nat} {xs : List Value} (h : ShR w base e sz v n xs) (K : Below w.heap.size w w') : ShR w' base e sz v n xs := by
 refine ⟨h.1, ?_⟩
 rcases h.2 with h | ⟨g, o, cap, cur, rfl, h1, h2, h3⟩
 · exact .inl h
 · exact .inr ⟨g, o, cap, cur, rfl, h1, h2.bl K, h3⟩
theorem NW.bl {base : Nat} {ns : List Nat} (h : NW w base v ns) (K : Below w.heap.size w w') : NW w' base v ns := ShR.bl h K
theorem SW.bl {base : Nat} {segs : List SegD} (h : SW w base v segs) (K : Below w.heap.size w w') : SW w' base v segs := by
 obtain ⟨xs, hx, he⟩ := h
 refine ⟨xs, hx.bl K, fun i s hs => ?_⟩
 obtain ⟨kp, mp, h4, h5, h6⟩ := he i s hs
 exact ⟨kp, mp, h4, h5.bl K, h6.bl K⟩
theorem WinS.bl {base wb : Nat} {d : WinD} (h : WinS w base wb d) (K : Below w.heap.size w w') : WinS w' base wb d := by
 obtain ⟨⟨kp, mp, sv, nv, h1, h2, h3, h4, h5⟩, hb, hw⟩ := h
 exact ⟨⟨kp, mp, sv, nv, h1.bl K, h2.bl K, h3.bl K, h4.bl K, h5.bl K⟩, hb, Nat.le_trans hw K.size⟩
theorem MsAt.bl {B : Nat} {ms : List Nat} {segs : List SegD} {nums : List Nat} (h : MsAt w B ms segs nums) (K : Below w.heap.size w w') : MsAt w' B ms segs nums := by
 refine ⟨h.1, h.2.1, fun i s n m h1 h2 h3 => ?_⟩
 obtain ⟨kp, mp, h4, h5, h6, h7⟩ := h.2.2 i s n m h1 h2 h3
 exact ⟨kp, mp, h4, h5.bl K, h6.bl K, h7.bl K⟩
theorem PlP.bl {B g hd : Nat} {d : WinD} {ms : List Nat} {kp mp : Option Nat} {arr : Array Value} (H : PlP w B b d g hd ms kp mp arr) (K : Below w.heap.size w w') : PlP w' B b d g hd ms kp mp arr :=
 ⟨H.blk.bl K, H.fkey.bl K, H.fmap.bl K, H.row.bl K, H.ring, H.fms.bl K, H.hb, H.hg, Nat.le_trans H.hw K.size, H.ev.below K (Nat.lt_of_lt_of_le H.lo H.hw), H.lo⟩
end
/-- plain elements in a row -/
def GR (w : World) (base e : Nat) {α : Type} (f : α → Value) (v : Value) (l : List α) : Prop := ShR w base e 1 v l.length (l.map f)
section
variable {α : Type} {f : α → Value} {w w' w0 : World} {base e B g j : Nat} {v : Value} {l : List α} {D : List Nat} {x : α} {cs : Array Value}
theorem GR.nil : GR w base e f (.slice none 0 0) [] := ShR.nil
theorem GR.bl (h : GR w base e f v l) (K : Below w.heap.size w w') : GR w' base e f v l := ShR.bl h K
theorem GR.kt (h : GR w base e f v l) (K : Kt B D w w') (hT : e ∉ D) : GR w' base e f v l := ShR.kt h K hT
theorem GR.ktof (h : GR w base e f v l) (G : w.grownBy w' v.ownBlock) : Kt 0 [e] w w' := Kt.of_row h G
theorem GR.ktr (h : GR w base e f v l) (K : Kt B D w0 w) (hB : B ≤ w0.heap.size) (hb : B ≤ base) (hT : e ∈ D) (G : w.grownBy w' v.ownBlock) : Kt B D w0 w' := ShR.ktr h K hB hb hT G
theorem GR.one (h : GR w base e f v l) : v.oneCell' = true := ShR.one h
theorem GR.len {t ty : TypeId} {cb : Array Bool} (h : GR w base e f v l) (h0 : ∀ w' : World, (builtin .len #[t] ty cb #[.slice none 0 0]).run Tryd.prog w' = .ok (.value (.int .i64 (0 : Nat))) w') (h1 : ∀ (a : Addr) (n c : Nat) (w' : World), (builtin .len #[t] ty cb #[.slice (some a) n c]).run Tryd.prog w' = .ok (.value (.int .i64 n)) w') (w' : World) : (builtin .len #[t] ty cb #[v]).run Tryd.prog w' = .ok (.value (.int .i64 l.length)) w' := by
 rcases h.2 with ⟨rfl, h2⟩ | ⟨g, o, cap, cur, rfl, _⟩
 · rw [h2]; exact h0 _
 · exact h1 _ _ _ _
theorem GR.push {t ty : TypeId} {z : Value} {by_ c : Nat} (ht : Tryd.prog.underlying t = some (.slice e)) (hinfo : (Tryd.prog.info? e).map (fun i => (i.zero, i.size, i.bytes)) = some (some z, 1, by_)) (hz : z.cells.size = 1) (hby : 0 < by_) (hby2 : by_ ≤ 200)
   (h : GR w base e f v l) (hB : Blk w g e #[f x]) (h1 : (f x).oneCell' = true) (hbase : base ≤ w.heap.size) (hn : l.length ≤ 1000) :
   ∃ v' w', (Builtin.append_ #[t, t] ty #[v, .slice (some ⟨g, 0, none⟩) 1 c]).run Tryd.prog w = .ok v' w' ∧ GR w' base e f v' (l ++ [x]) ∧ w.grownBy w' v.ownBlock := by
 obtain ⟨v', w', h2, h3, h4⟩ := ShR.push (ty := ty) (c := c) ht hinfo hz (by decide) hby h hB rfl (fun u hu => by
   obtain rfl : u = f x := by simpa using hu
   exact h1) hbase (by
   calc (l.length + 1) * by_ ≤ 1001 * 200 := Nat.mul_le_mul (by omega) hby2
     _ ≤ 140737488355328 := by decide)
 refine ⟨v', w', h2, ?_, h4⟩
 unfold GR
 rw [List.length_append, List.map_append]
 exact h3
theorem GR.far0 (h : GR w base e f v l) (hg : g < base) : some g ≠ v.ownBlock := by
 rcases h.2 with ⟨rfl, _⟩ | ⟨r, o, cap, cur, rfl, h1, _⟩
 · exact fun e => by cases e
 · exact fun e => by
     have h4 : g = r := Option.some.inj e
     omega
/-- where an element stands -/
theorem GR.elem (h : GR w base e f v l) (hx : l[j]? = some x) : ∃ g U cap, v = .slice (some ⟨g, U, none⟩) l.length cap ∧ w.cell? ⟨g, U + j, none⟩ = some (f x) := by
 obtain ⟨hj, rfl⟩ := List.getElem?_eq_some_iff.1 hx
 obtain ⟨g, U, cap, rfl⟩ := ShR.shape h (by omega)
 refine ⟨g, U, cap, rfl, ?_⟩
 rw [ShR.cell h (by omega)]
 simp [hj]
end
theorem ix_pms (g U n c j : Nat) (hj : j < n) (w : World) : (Instr.indexAt 88 (.slice (some ⟨g, U, none⟩) n c) (.int .i64 j)).run Tryd.prog w = .ok (.pointer (some ⟨g, U + j, none⟩)) w := by
 have h1 : (j : Int) < (n : Int) := by omega
 have h2 : (0 : Int) ≤ (j : Int) := by omega
 simp [go_sem, h1, h2]
theorem ix_bool (g U n c j : Nat) (hj : j < n) (w : World) : (Instr.indexAt 26 (.slice (some ⟨g, U, none⟩) n c) (.int .i64 j)).run Tryd.prog w = .ok (.pointer (some ⟨g, U + j, none⟩)) w := by
 have h1 : (j : Int) < (n : Int) := by omega
 have h2 : (0 : Int) ≤ (j : Int) := by omega
 simp [go_sem, h1, h2]
theorem ix_iseg (g U n c j : Nat) (hj : j < n) (w : World) : (Instr.indexAt 65 (.slice (some ⟨g, U, none⟩) n c) (.int .i64 j)).run Tryd.prog w = .ok (.pointer (some ⟨g, U + 11 * j, none⟩)) w := by
 have h1 : (j : Int) < (n : Int) := by omega
 have h2 : (0 : Int) ≤ (j : Int) := by omega
 simp [go_sem, h1, h2]
theorem ix_step (g U n c j : Nat) (hj : j < n) (w : World) : (Instr.indexAt 25 (.slice (some ⟨g, U, none⟩) n c) (.int .i64 j)).run Tryd.prog w = .ok (.pointer (some ⟨g, U + 13 * j, none⟩)) w := by
 have h1 : (j : Int) < (n : Int) := by omega
 have h2 : (0 : Int) ≤ (j : Int) := by omega
 simp [go_sem, h1, h2]
/-- elements of more cells, with keys and heads of their own -/
def ER (w : World) (base e sz : Nat) {α : Type} (C : α → Value → Value → Array Value) (kf : α → Option KeyD) (mf : α → Option MapD) (v : Value) (l : List α) : Prop :=
 ∃ xs, ShR w base e sz v l.length xs ∧ ∀ i x, l[i]? = some x → ∃ kv mv, (∀ k, k < sz → xs[sz * i + k]? = (C x kv mv)[k]?) ∧ KeySl w kv (kf x) ∧ MapSl w mv (mf x)
section
variable {α : Type} {C : α → Value → Value → Array Value} {kf : α → Option KeyD} {mf : α → Option MapD} {w w' w0 : World} {base e sz B g j : Nat} {v kv mv : Value} {l : List α} {D : List Nat} {x : α} {cs : Array Value}
theorem ER.nil : ER w base e sz C kf mf (.slice none 0 0) [] := ⟨[], ShR.nil, fun i s h => by simp at h⟩
theorem ER.bl (h : ER w base e sz C kf mf v l) (K : Below w.heap.size w w') : ER w' base e sz C kf mf v l := by
 obtain ⟨xs, hx, he⟩ := h
 refine ⟨xs, hx.bl K, fun i s hs => ?_⟩
 obtain ⟨kv, mv, h4, h5, h6⟩ := he i s hs
 exact ⟨kv, mv, h4, h5.bl K, h6.bl K⟩
theorem ER.kt (h : ER w base e sz C kf mf v l) (K : Kt B D w w') (h1 : e ∉ D) (h2 : 78 ∉ D) (h3 : 80 ∉ D) : ER w' base e sz C kf mf v l := by
 obtain ⟨xs, hx, he⟩ := h
 refine ⟨xs, hx.kt K h1, fun i s hs => ?_⟩
 obtain ⟨kv, mv, h4, h5, h6⟩ := he i s hs
 exact ⟨kv, mv, h4, h5.kt K h2, h6.kt K h3⟩
theorem ER.ktof (h : ER w base e sz C kf mf v l) (G : w.grownBy w' v.ownBlock) : Kt 0 [e] w w' := by obtain ⟨xs, h, _⟩ := h; exact Kt.of_row h G
theorem ER.ktr (h : ER w base e sz C kf mf v l) (K : Kt B D w0 w) (hB : B ≤ w0.heap.size) (hb : B ≤ base) (hT : e ∈ D) (G : w.grownBy w' v.ownBlock) : Kt B D w0 w' := by obtain ⟨xs, h, _⟩ := h; exact h.ktr K hB hb hT G
theorem ER.one (h : ER w base e sz C kf mf v l) : v.oneCell' = true := by obtain ⟨xs, h, _⟩ := h; exact h.one
theorem ER.len {t ty : TypeId} {cb : Array Bool} (h : ER w base e sz C kf mf v l) (h0 : ∀ w' : World, (builtin .len #[t] ty cb #[.slice none 0 0]).run Tryd.prog w' = .ok (.value (.int .i64 (0 : Nat))) w') (h1 : ∀ (a : Addr) (n c : Nat) (w' : World), (builtin .len #[t] ty cb #[.slice (some a) n c]).run Tryd.prog w' = .ok (.value (.int .i64 n)) w') (w' : World) : (builtin .len #[t] ty cb #[v]).run Tryd.prog w' = .ok (.value (.int .i64 l.length)) w' := by
 obtain ⟨xs, h, _⟩ := h
 rcases h.2 with ⟨rfl, h2⟩ | ⟨g, o, cap, cur, rfl, _⟩
 · rw [h2]; exact h0 _
 · exact h1 _ _ _ _
theorem ER.push {t ty : TypeId} {z : Value} {by_ c : Nat} (ht : Tryd.prog.underlying t = some (.slice e)) (hinfo : (Tryd.prog.info? e).map (fun i => (i.zero, i.size, i.bytes)) = some (some z, sz, by_)) (hz : z.cells.size = sz) (hs : 0 < sz) (hby : 0 < by_) (hby2 : by_ ≤ 300)
   (hek : e ≠ 78) (hem : e ≠ 80) (h : ER w base e sz C kf mf v l) (hB : Blk w g e (C x kv mv)) (hsz : (C x kv mv).size = sz) (h1 : ∀ u ∈ (C x kv mv).toList, u.oneCell' = true) (hk : KeySl w kv (kf x)) (hm : MapSl w mv (mf x)) (hbase : base ≤ w.heap.size) (hn : l.length ≤ 1000) :
   ∃ v' w', (Builtin.append_ #[t, t] ty #[v, .slice (some ⟨g, 0, none⟩) 1 c]).run Tryd.prog w = .ok v' w' ∧ ER w' base e sz C kf mf v' (l ++ [x]) ∧ w.grownBy w' v.ownBlock := by
 obtain ⟨xs, hx, he⟩ := h
 obtain ⟨v', w', h1, h2, G⟩ := ShR.push (ty := ty) (c := c) ht hinfo hz hs hby hx hB hsz h1 hbase (by
   calc (l.length + 1) * by_ ≤ 1001 * 300 := Nat.mul_le_mul (by omega) hby2
     _ ≤ 140737488355328 := by decide)
 have K := Kt.of_row hx G
 refine ⟨v', w', h1, ⟨_, by rw [List.length_append]; exact h2, fun i s' hs' => ?_⟩, G⟩
 rcases Nat.lt_or_ge i l.length with hlt | hge
 · rw [List.getElem?_append_left hlt] at hs'
   obtain ⟨kv', mv', h3, h4, h5⟩ := he i s' hs'
   refine ⟨kv', mv', fun k hk => ?_, h4.kt K (by simpa using hek.symm), h5.kt K (by simpa using hem.symm)⟩
   rw [List.getElem?_append_left]
   · exact h3 k hk
   · rw [hx.1]
     calc sz * i + k < sz * i + sz := by omega
       _ = (i + 1) * sz := by rw [Nat.add_mul, Nat.one_mul, Nat.mul_comm]
       _ ≤ l.length * sz := Nat.mul_le_mul_right _ hlt
 · have hi : i = l.length := by
     have := (List.getElem?_eq_some_iff.1 hs').1
     simp at this; omega
   subst hi
   obtain rfl : x = s' := by simpa using hs'
   refine ⟨kv, mv, fun k hk => ?_, hk.kt K (by simpa using hek.symm), hm.kt K (by simpa using hem.symm)⟩
   rw [List.getElem?_append_right (by rw [hx.1, Nat.mul_comm]; omega), hx.1, Nat.mul_comm sz, Nat.add_sub_cancel_left]
   simp
/-- one element: where it lies, what stands there -/
theorem ER.elem (h : ER w base e sz C kf mf v l) (hs : 0 < sz) (hx : l[j]? = some x) : ∃ g U cap kv mv, v = .slice (some ⟨g, U, none⟩) l.length cap ∧ (∃ cur, Blk w g e cur ∧ ∀ k, k < sz → cur[U + sz * j + k]? = (C x kv mv)[k]?) ∧ KeySl w kv (kf x) ∧ MapSl w mv (mf x) := by
 obtain ⟨xs, hr, he⟩ := h
 obtain ⟨kv, mv, h4, h5, h6⟩ := he j x hx
 have hj := (List.getElem?_eq_some_iff.1 hx).1
 obtain ⟨g, U, cap, rfl⟩ := hr.shape (by omega)
 have hr0 := hr
 rcases hr.2 with ⟨h, _⟩ | ⟨g', o, cap', cur, hv, hb, hbl, _⟩
 · cases h
 · have hv2 := hv
   simp only [Value.slice.injEq, Option.some.injEq, Addr.mk.injEq, true_and, and_true] at hv2
   obtain ⟨⟨rfl, rfl⟩, rfl⟩ := hv2
   refine ⟨g, _, cap, kv, mv, rfl, ⟨cur, hbl, fun k hk => ?_⟩, h5, h6⟩
   rw [← h4 k hk, ← hr0.cell (i := sz * j + k), hbl.cell, Nat.add_assoc]
   calc sz * j + k < sz * j + sz := by omega
     _ = (j + 1) * sz := by rw [Nat.add_mul, Nat.one_mul, Nat.mul_comm]
     _ ≤ l.length * sz := Nat.mul_le_mul_right _ hj
end
/-- a loop that counts to m in slot si -/
theorem loop_k {id si m : Nat} {ty : IntKind} {c : Code} {Q : Exit → Act → World → Prop} {a : Act} {w : World} (I : Nat → Act → World → Prop) (h0 : I 0 a w) (hi : ∀ j a w, I j a w → a.tmps.getD si undef = .int ty j)
   (hr : ∀ j a w, j < m → I j a w → ∀ R : Exit → Act → World → Prop, (∀ a' w', I (j + 1) a' w' → R .normal a' w') → c.wp Tryd.prog R a w) (hx : ∀ a w, I m a w → c.wp Tryd.prog (Exit.then (fun _ _ => False) (Exit.inBlock id Q)) a w) : (Code.block id (Code.loop c)).wp Tryd.prog Q a w := by
 refine wp_block (wp_loop (fun a w => ∃ j, j ≤ m ∧ I j a w) (fun a _ => m - (intOf (a.tmps.getD si undef)).toNat) ⟨0, Nat.zero_le _, h0⟩ ?_)
 rintro a w ⟨j, hj, hI⟩
 by_cases h : j < m
 · refine hr j a w h hI _ fun a' w' h' => ⟨⟨j + 1, h, h'⟩, ?_⟩
   rw [hi _ _ _ h', hi _ _ _ hI]
   simp only [intOf]
   omega
 · obtain rfl : j = m := by omega
   refine Code.wp_mono ?_ (hx a w hI)
   intro e a' w' h'
   cases e <;> first | exact h'.elim | exact h'
theorem inBlock_exit {id : Nat} {Q : Exit → Act → World → Prop} {a : Act} {w : World} (h : Q .normal a w) : Exit.inBlock id Q (.exit id) a w := by
 simpa [Exit.inBlock] using h
theorem ex_ext {a : Act} {w : World} {dd : Option Tmp} {ty : TypeId} {p : String} {af : Array Edge} {g : Option (Nat × Bool)} {x : Operand} {vs : Array Value} {ix : Nat} {v : Value} (hx : a.eval x = .tuple vs) (h : (Instr.extract (.tuple vs) ix).run Tryd.prog w = .ok v w) : (execOp a.eval ⟨dd, .extract x ix, ty, p, af, g⟩).run Tryd.prog w = .ok (.value v) w := by
 simp only [execOp, hx, Sem.run_bind, h, Result.andThen_ok, Sem.run_pure]
/-- segments as data, with their numbers -/
abbrev ISR (w : World) (base : Nat) (v : Value) (l : List (Nat × SegD)) : Prop := ER w base 40 11 (fun x : Nat × SegD => segD x.1 x.2) (fun x => x.2.key) (fun x => x.2.map) v l
structure StepD where
 kind : Nat
 seg : SegD
 num : Nat
def stepC (x : StepD) (kv mv : Value) : Array Value := #[.int .i64 x.kind, .int .u64 0, .string x.seg.title, .string x.seg.uri, .float .f64 (fb x.seg.e), .int .i64 x.seg.li, .int .i64 x.seg.off, kv, mv, .slice none 0 0, .bool x.seg.disc, .string x.seg.date, .int .i64 x.num]
abbrev STR (w : World) (base : Nat) (v : Value) (l : List StepD) : Prop := ER w base 44 13 stepC (fun x => x.seg.key) (fun x => x.seg.map) v l
theorem KeySl.one_ {w : World} {v : Value} {k : Option KeyD} (h : KeySl w v k) : v.oneCell' = true := by cases h <;> rfl
theorem MapSl.one_ {w : World} {v : Value} {k : Option MapD} (h : MapSl w v k) : v.oneCell' = true := by cases h <;> rfl
theorem ISR.push {w : World} {base g : Nat} {v kv mv : Value} {l : List (Nat × SegD)} {n : Nat} {s : SegD} {ty : TypeId} {c : Nat} (h : ISR w base v l) (hB : Blk w g 40 (segD n s kv mv)) (hk : KeySl w kv s.key) (hm : MapSl w mv s.map) (hbase : base ≤ w.heap.size) (hn : l.length ≤ 1000) :
   ∃ v' w', (Builtin.append_ #[65, 65] ty #[v, .slice (some ⟨g, 0, none⟩) 1 c]).run Tryd.prog w = .ok v' w' ∧ ISR w' base v' (l ++ [(n, s)]) ∧ w.grownBy w' v.ownBlock :=
 ER.push (x := (n, s)) (z := .agg #[.int .u64 0, .string ⟨#[]⟩, .string ⟨#[]⟩, .float .f64 0, .int .i64 0, .int .i64 0, .slice none 0 0, .slice none 0 0, .slice none 0 0, .bool false, .string ⟨#[]⟩]) (by_ := 160) Tryd.underlying65 (by kernel_rfl) rfl (by decide) (by decide) (by decide) (by decide) (by decide) h hB rfl (by
   intro u hu
   simp only [segD, List.mem_cons, List.not_mem_nil, or_false] at hu
   rcases hu with rfl | rfl | rfl | rfl | rfl | rfl | rfl | rfl | rfl | rfl | rfl
   all_goals first | rfl | exact hk.one_ | exact hm.one_) hk hm hbase hn
theorem STR.push {w : World} {base g : Nat} {v kv mv : Value} {l : List StepD} {x : StepD} {ty : TypeId} {c : Nat} (h : STR w base v l) (hB : Blk w g 44 (stepC x kv mv)) (hk : KeySl w kv x.seg.key) (hm : MapSl w mv x.seg.map) (hbase : base ≤ w.heap.size) (hn : l.length ≤ 1000) :
   ∃ v' w', (Builtin.append_ #[25, 25] ty #[v, .slice (some ⟨g, 0, none⟩) 1 c]).run Tryd.prog w = .ok v' w' ∧ STR w' base v' (l ++ [x]) ∧ w.grownBy w' v.ownBlock :=
 ER.push (x := x) (z := .agg #[.int .i64 0, .int .u64 0, .string ⟨#[]⟩, .string ⟨#[]⟩, .float .f64 0, .int .i64 0, .int .i64 0, .slice none 0 0, .slice none 0 0, .slice none 0 0, .bool false, .string ⟨#[]⟩, .int .i64 0]) (by_ := 176) Tryd.underlying25 (by kernel_rfl) rfl (by decide) (by decide) (by decide) (by decide) (by decide) h hB rfl (by
   intro u hu
   simp only [stepC, List.mem_cons, List.not_mem_nil, or_false] at hu
   rcases hu with rfl | rfl | rfl | rfl | rfl | rfl | rfl | rfl | rfl | rfl | rfl | rfl | rfl
   all_goals first | rfl | exact hk.one_ | exact hm.one_) hk hm hbase hn
end Go.Proofs.YtdpebhlkgmopkaaDoor
