/-
 FnSteps: the plain form of a playlist of places; the specification's window in memory.
-/
import Derived.Test.YtdpebhlkgmopkaaDoorShr
namespace Go.Proofs.YtdpebhlkgmopkaaDoor
open Go.RowKit
set_option maxRecDepth 100000
section
variable {w w' : World} {base e sz n g U cap : Nat} {v : Value} {xs : List Value} {cs : Array Value} {B : Nat} {D : List Nat}
/-- behind the first -/
theorem ShR.drop (h : ShR w base e sz v (n + 1) xs) : ∃ g U cap, v = .slice (some ⟨g, U, none⟩) (n + 1) cap ∧ n + 1 ≤ cap ∧ ShR w base e sz (.slice (some ⟨g, if cap = 1 then U else U + sz, none⟩) n (cap - 1)) n (xs.drop sz) := by
 obtain ⟨hl, h2⟩ := h
 rcases h2 with ⟨_, h⟩ | ⟨g, o, cap, cur, rfl, h1, h2, h3, h4, h5, h6⟩
 · omega
 · have hlen : (xs.drop sz).length = n * sz := by rw [List.length_drop, hl, Nat.add_mul]; omega
   refine ⟨g, o * sz, cap, rfl, h3, hlen, ?_⟩
   by_cases hc : cap = 1
   · obtain rfl : n = 0 := by omega
     rw [if_pos hc]
     exact .inr ⟨g, o, cap - 1, cur, rfl, h1, h2, by omega, by omega, Nat.le_trans (Nat.mul_le_mul_right _ (by omega)) h5, by simp; omega⟩
   · rw [if_neg hc]
     refine .inr ⟨g, o + 1, cap - 1, cur, by rw [Nat.add_mul, Nat.one_mul], h1, h2, by omega, by omega, by rw [show o + 1 + (cap - 1) = o + cap by omega]; exact h5, ?_⟩
     rw [← h6, List.drop_take, List.drop_drop, show o * sz + sz = (o + 1) * sz by rw [Nat.add_mul]; omega, show (n + 1) * sz - sz = n * sz by rw [Nat.add_mul]; omega]
/-- a store into an element -/
theorem ShR.set {T i : Nat} {u : Value} (hT : SZ T) (h : ShR w base e sz (.slice (some ⟨g, U, none⟩) n cap) n xs) (hi : i < n * sz) (hu : u.oneCell' = true) :
   ∃ w', (Instr.storeAt T (.pointer (some ⟨g, U + i, none⟩)) u).run Tryd.prog w = .ok () w' ∧ ShR w' base e sz (.slice (some ⟨g, U, none⟩) n cap) n (xs.set i u) ∧ w.grownBy w' (some g) ∧ (∃ cur, Blk w g e cur) ∧ base ≤ g := by
 obtain ⟨hl, h2⟩ := h
 rcases h2 with ⟨h, _⟩ | ⟨g', o, cap', cur, he, h1, h2, h3, h4, h5, h6⟩
 · cases h
 · simp only [Value.slice.injEq, Option.some.injEq, Addr.mk.injEq, true_and, and_true] at he
   obtain ⟨⟨rfl, rfl⟩, rfl⟩ := he
   have h7 : n * sz ≤ cap * sz := Nat.mul_le_mul_right _ h3
   obtain ⟨w', hr, hb, G⟩ := st_run (o := o * sz + i) hT h2 hu (by rw [Nat.add_mul] at h5; omega) rfl
   refine ⟨w', hr, ⟨by rw [List.length_set]; exact hl, .inr ⟨g, o, cap, _, rfl, h1, hb, h3, h4, by rw [Array.size_setIfInBounds]; exact h5, ?_⟩⟩, G, ⟨cur, h2⟩, h1⟩
   rw [← h6]
   apply List.ext_getElem?
   intro j
   rw [List.getElem?_take, List.getElem?_drop, Array.getElem?_toList, Array.getElem?_setIfInBounds, List.getElem?_set, List.length_take, List.length_drop, Array.length_toList, List.getElem?_take, List.getElem?_drop, Array.getElem?_toList]
   by_cases hj : i = j
   · subst hj
     rw [if_pos rfl, if_pos rfl, if_pos hi, if_pos (by rw [Nat.add_mul] at h5; omega), if_pos (by rw [Nat.add_mul] at h5; omega)]
   · rw [if_neg (show ¬ (o * sz + i = o * sz + j) by omega), if_neg hj]
end
/-- whole numbers in a row -/
def NW (w : World) (base : Nat) (v : Value) (ns : List Nat) : Prop := ShR w base 34 1 v ns.length (ns.map fun n : Nat => .int .u64 n)
/-- the specification's segments in a row -/
def SW (w : World) (base : Nat) (v : Value) (segs : List SegD) : Prop :=
 ∃ xs, ShR w base 32 9 v segs.length xs ∧ ∀ i s, segs[i]? = some s → ∃ kp mp, (∀ k, k < 9 → xs[9 * i + k]? = (ssegC s kp mp)[k]?) ∧ SKey w kp s.key ∧ SMap w mp s.map
section
variable {w w' : World} {base g U B n cap : Nat} {v v' : Value} {ns : List Nat} {segs : List SegD} {D : List Nat} {cs : Array Value} {s : SegD} {kp mp : Option Nat}
theorem NW.nil : NW w base (.slice none 0 0) [] := ShR.nil
theorem SW.nil : SW w base (.slice none 0 0) [] := ⟨[], ShR.nil, fun i s h => by simp at h⟩
theorem NW.kt (h : NW w base v ns) (K : Kt B D w w') (hT : 34 ∉ D) : NW w' base v ns := ShR.kt h K hT
theorem SW.kt (h : SW w base v segs) (K : Kt B D w w') (h1 : 32 ∉ D) (h2 : 56 ∉ D) (h3 : 61 ∉ D) : SW w' base v segs := by
 obtain ⟨xs, hx, he⟩ := h
 refine ⟨xs, hx.kt K h1, fun i s hs => ?_⟩
 obtain ⟨kp, mp, h4, h5, h6⟩ := he i s hs
 exact ⟨kp, mp, h4, h5.kt K h2, h6.kt K h3⟩
theorem Kt.of_none (G : w.grownBy w' none) : Kt 0 [] w w' := (Kt.refl 0 [] w).nw (Nat.zero_le _) G
theorem Kt.of_blk {T : Nat} (hb : Blk w g T cs) (G : w.grownBy w' (some g)) : Kt 0 [T] w w' := (Kt.refl 0 [T] w).blk (Nat.zero_le _) hb (Nat.zero_le _) (by simp) G
theorem Kt.of_row {e sz : Nat} {xs : List Value} (h : ShR w base e sz v n xs) (G : w.grownBy w' v.ownBlock) : Kt 0 [e] w w' := h.ktr (Kt.refl 0 [e] w) (Nat.zero_le _) (Nat.zero_le _) (by simp) G
theorem NW.gn (h : NW w base v ns) (G : w.grownBy w' none) : NW w' base v ns := h.kt (Kt.of_none G) (by simp)
theorem SW.gn (h : SW w base v segs) (G : w.grownBy w' none) : SW w' base v segs := h.kt (Kt.of_none G) (by simp) (by simp) (by simp)
theorem NW.gk {T : Nat} (h : NW w base v ns) (hb : Blk w g T cs) (hT : 34 ∉ [T]) (G : w.grownBy w' (some g)) : NW w' base v ns := h.kt (Kt.of_blk hb G) hT
theorem SW.gk {T : Nat} (h : SW w base v segs) (hb : Blk w g T cs) (h1 : 32 ∉ [T] ∧ 56 ∉ [T] ∧ 61 ∉ [T]) (G : w.grownBy w' (some g)) : SW w' base v segs := h.kt (Kt.of_blk hb G) h1.1 h1.2.1 h1.2.2
theorem NW.len {ty : TypeId} {cb : Array Bool} (h : NW w base v ns) (w' : World) : (builtin .len #[49] ty cb #[v]).run Tryd.prog w' = .ok (.value (.int .i64 ns.length)) w' := by
 rcases h.2 with ⟨rfl, h2⟩ | ⟨g, o, cap, cur, rfl, _⟩
 · rw [h2]; kernel_rfl
 · kernel_rfl
theorem SW.len {ty : TypeId} {cb : Array Bool} (h : SW w base v segs) (w' : World) : (builtin .len #[48] ty cb #[v]).run Tryd.prog w' = .ok (.value (.int .i64 segs.length)) w' := by
 obtain ⟨xs, h, _⟩ := h
 rcases h.2 with ⟨rfl, h2⟩ | ⟨g, o, cap, cur, rfl, _⟩
 · rw [h2]; kernel_rfl
 · kernel_rfl
theorem NW.one (h : NW w base v ns) : v.oneCell' = true := ShR.one h
theorem SW.one (h : SW w base v segs) : v.oneCell' = true := by obtain ⟨xs, h, _⟩ := h; exact h.one
theorem NW.push {ty : TypeId} {m c : Nat} (h : NW w base v ns) (hB : Blk w g 34 #[.int .u64 m]) (hbase : base ≤ w.heap.size) (hn : ns.length ≤ 1000) :
   ∃ v' w', (Builtin.append_ #[49, 49] ty #[v, .slice (some ⟨g, 0, none⟩) 1 c]).run Tryd.prog w = .ok v' w' ∧ NW w' base v' (ns ++ [m]) ∧ w.grownBy w' v.ownBlock := by
 obtain ⟨v', w', h1, h2, h3⟩ := ShR.push (t := 49) (ty := ty) (z := .int .u64 0) (by_ := 8) (c := c) Tryd.underlying49 (by kernel_rfl) rfl (by decide) (by decide) h hB rfl (by simp [Value.oneCell']) hbase (by omega)
 refine ⟨v', w', h1, ?_, h3⟩
 unfold NW
 rw [List.length_append, List.map_append]
 exact h2
theorem SW.push {ty : TypeId} {c : Nat} (h : SW w base v segs) (hB : Blk w g 32 (ssegC s kp mp)) (hk : SKey w kp s.key) (hm : SMap w mp s.map) (hbase : base ≤ w.heap.size) (hn : segs.length ≤ 1000) :
   ∃ v' w', (Builtin.append_ #[48, 48] ty #[v, .slice (some ⟨g, 0, none⟩) 1 c]).run Tryd.prog w = .ok v' w' ∧ SW w' base v' (segs ++ [s]) ∧ w.grownBy w' v.ownBlock := by
 obtain ⟨xs, hx, he⟩ := h
 obtain ⟨by_, hby, hb1, hb2⟩ : ∃ by_, (Tryd.prog.info? 32).map (fun i => (i.zero, i.size, i.bytes)) = some (some (.agg #[.string ⟨#[]⟩, .string ⟨#[]⟩, .int .i64 0, .int .i64 0, .int .i64 0, .pointer none, .pointer none, .bool false, .string ⟨#[]⟩]), 9, by_) ∧ 0 < by_ ∧ by_ ≤ 200 := ⟨96, by kernel_rfl, by decide, by decide⟩
 obtain ⟨v', w', h1, h2, G⟩ := ShR.push (t := 48) (ty := ty) (c := c) Tryd.underlying48 hby rfl (by decide) hb1 hx hB rfl (one_ssegC _ _ _) hbase (by
   calc (segs.length + 1) * by_ ≤ 1001 * 200 := Nat.mul_le_mul (by omega) hb2
     _ ≤ 140737488355328 := by decide)
 have K := Kt.of_row hx G
 refine ⟨v', w', h1, ⟨_, by rw [List.length_append]; exact h2, fun i s' hs => ?_⟩, G⟩
 rcases Nat.lt_or_ge i segs.length with hlt | hge
 · rw [List.getElem?_append_left hlt] at hs
   obtain ⟨kp', mp', h3, h4, h5⟩ := he i s' hs
   refine ⟨kp', mp', fun k hk => ?_, h4.kt K (by decide), h5.kt K (by decide)⟩
   rw [List.getElem?_append_left (by rw [hx.1]; omega)]
   exact h3 k hk
 · have hi : i = segs.length := by
     have := (List.getElem?_eq_some_iff.1 hs).1
     simp at this; omega
   subst hi
   obtain rfl : s = s' := by simpa using hs
   refine ⟨kp, mp, fun k hk => ?_, hk.kt K (by decide), hm.kt K (by decide)⟩
   rw [getElem_snoc (by rw [hx.1]; omega) rfl]
   simp
theorem sl1_64 (g U n cap : Nat) (h : n + 1 ≤ cap) (w : World) : (Instr.sliceAt 49 (.slice (some ⟨g, U, none⟩) (n + 1) cap) (some (.int .i64 1)) none none).run Tryd.prog w = .ok (.slice (some ⟨g, if cap = 1 then U else U + 1, none⟩) n (cap - 1)) w := by
 have h1 : (1 : Int) ≤ (n : Int) + 1 := by omega
 by_cases hc : cap = 1
 · subst hc; simp [go_sem, h1]
 · simp [go_sem, h1, hc]
theorem sl1_sg (g U n cap : Nat) (h : n + 1 ≤ cap) (w : World) : (Instr.sliceAt 48 (.slice (some ⟨g, U, none⟩) (n + 1) cap) (some (.int .i64 1)) none none).run Tryd.prog w = .ok (.slice (some ⟨g, if cap = 1 then U else U + 9, none⟩) n (cap - 1)) w := by
 have h1 : (1 : Int) ≤ (n : Int) + 1 := by omega
 by_cases hc : cap = 1
 · subst hc; simp [go_sem, h1]
 · simp [go_sem, h1, hc]
theorem NW.drop {m : Nat} (h : NW w base v (m :: ns)) : ∃ v', (∀ w, (Instr.sliceAt 49 v (some (.int .i64 1)) none none).run Tryd.prog w = .ok v' w) ∧ NW w base v' ns := by
 obtain ⟨g, U, cap, rfl, hc, h2⟩ := ShR.drop (n := ns.length) h
 exact ⟨_, fun w => sl1_64 g U _ cap hc w, h2⟩
theorem SW.drop (h : SW w base v (s :: segs)) : ∃ v', (∀ w, (Instr.sliceAt 48 v (some (.int .i64 1)) none none).run Tryd.prog w = .ok v' w) ∧ SW w base v' segs := by
 obtain ⟨xs, hx, he⟩ := h
 obtain ⟨g, U, cap, rfl, hc, h2⟩ := ShR.drop (n := segs.length) hx
 refine ⟨_, fun w => sl1_sg g U _ cap hc w, ⟨_, h2, fun i s' hs => ?_⟩⟩
 obtain ⟨kp, mp, h3, h4, h5⟩ := he (i + 1) s' (by simpa using hs)
 refine ⟨kp, mp, fun k hk => ?_, h4, h5⟩
 rw [← h3 k hk, List.getElem?_drop]
 congr 1
 omega
theorem ix_64 (g U n c j : Nat) (hj : j < n) (w : World) : (Instr.indexAt 49 (.slice (some ⟨g, U, none⟩) n c) (.int .i64 j)).run Tryd.prog w = .ok (.pointer (some ⟨g, U + j, none⟩)) w := by
 have h1 : (j : Int) < (n : Int) := by omega
 have h2 : (0 : Int) ≤ (j : Int) := by omega
 simp [go_sem, h1, h2]
theorem ix_sg (g U n c j : Nat) (hj : j < n) (w : World) : (Instr.indexAt 48 (.slice (some ⟨g, U, none⟩) n c) (.int .i64 j)).run Tryd.prog w = .ok (.pointer (some ⟨g, U + 9 * j, none⟩)) w := by
 have h1 : (j : Int) < (n : Int) := by omega
 have h2 : (0 : Int) ≤ (j : Int) := by omega
 simp [go_sem, h1, h2]
/-- one number: its address, the number -/
theorem NW.elem {j : Nat} (h : NW w base v ns) (hj : j < ns.length) : ∃ ad, (∀ w', (Instr.indexAt 49 v (.int .i64 j)).run Tryd.prog w' = .ok (.pointer (some ad)) w') ∧ w.cell? ad = some (.int .u64 ns[j]) := by
 obtain ⟨g, U, cap, rfl⟩ := ShR.shape h (by omega)
 refine ⟨⟨g, U + j, none⟩, fun w' => ix_64 g U _ cap j hj w', ?_⟩
 rw [ShR.cell h (by omega)]
 simp [hj]
/-- one segment: where it lies, what stands there -/
theorem SW.elem {j : Nat} (h : SW w base v segs) (hj : j < segs.length) : ∃ g U kp mp, (∀ w', (Instr.indexAt 48 v (.int .i64 j)).run Tryd.prog w' = .ok (.pointer (some ⟨g, U, none⟩)) w') ∧ base ≤ g ∧ (∃ cur, Blk w g 32 cur ∧ ∀ k, k < 9 → cur[U + k]? = (ssegC segs[j] kp mp)[k]?) ∧ SKey w kp segs[j].key ∧ SMap w mp segs[j].map := by
 obtain ⟨xs, hx, he⟩ := h
 obtain ⟨kp, mp, h4, h5, h6⟩ := he j segs[j] (List.getElem?_eq_getElem hj)
 have hx0 := hx
 obtain ⟨h1, h2⟩ := hx
 rcases h2 with ⟨rfl, h2⟩ | ⟨g, o, cap, cur, rfl, hb, hbl, hn, _, hc, ht⟩
 · omega
 · refine ⟨g, o * 9 + 9 * j, kp, mp, fun w' => ix_sg g _ _ cap j hj w', hb, ⟨cur, hbl, fun k hk => ?_⟩, h5, h6⟩
   rw [← h4 k hk, ← hx0.cell (i := 9 * j + k) (by omega), hbl.cell]
   congr 1
   omega
/-- a field of one segment is set -/
theorem SW.set {T j f : Nat} {u : Value} {s' : SegD} {g2 U2 : Nat} (hT : SZ T) (h : SW w base v segs) (hj : j < segs.length) (hf : f < 9) (hu : u.oneCell' = true) (hix : (Instr.indexAt 48 v (.int .i64 j)).run Tryd.prog w = .ok (.pointer (some ⟨g2, U2, none⟩)) w)
   (hs : ∀ kp mp, SKey w kp segs[j].key → SMap w mp segs[j].map → ∃ kp' mp', (∀ k, k < 9 → (if k = f then some u else (ssegC segs[j] kp mp)[k]?) = (ssegC s' kp' mp')[k]?) ∧ SKey w kp' s'.key ∧ SMap w mp' s'.map) :
   ∃ w', (Instr.storeAt T (.pointer (some ⟨g2, U2 + f, none⟩)) u).run Tryd.prog w = .ok () w' ∧ SW w' base v (segs.set j s') ∧ w.grownBy w' (some g2) ∧ (∃ cur, Blk w g2 32 cur) ∧ base ≤ g2 := by
 obtain ⟨xs, hx, he⟩ := h
 obtain ⟨g, U, cap, rfl⟩ := hx.shape (by omega)
 have hix2 := ix_sg g U segs.length cap j hj w
 rw [hix] at hix2
 simp only [Result.ok.injEq, Value.pointer.injEq, Option.some.injEq, Addr.mk.injEq, and_true] at hix2
 obtain ⟨rfl, rfl⟩ := hix2
 obtain ⟨w', hr, hx', G, ⟨cur, hbl⟩, hbg⟩ := hx.set (i := 9 * j + f) hT (by omega) hu
 rw [← Nat.add_assoc] at hr
 have K := Kt.of_blk hbl G
 refine ⟨w', hr, ⟨_, by rw [List.length_set]; exact hx', fun i s2 hs2 => ?_⟩, G, ⟨cur, hbl⟩, hbg⟩
 rw [List.getElem?_set] at hs2
 by_cases hij : j = i
 · subst hij
   rw [if_pos rfl, if_pos hj] at hs2
   obtain rfl := Option.some.inj hs2
   obtain ⟨kp, mp, h4, h5, h6⟩ := he j segs[j] (List.getElem?_eq_getElem hj)
   obtain ⟨kp', mp', h7, h8, h9⟩ := hs kp mp h5 h6
   refine ⟨kp', mp', fun k hk => ?_, h8.kt K (by decide), h9.kt K (by decide)⟩
   rw [List.getElem?_set, ← h7 k hk]
   by_cases hkf : k = f
   · subst hkf
     rw [if_pos rfl, if_pos rfl, if_pos (by rw [hx.1]; omega)]
   · rw [if_neg (by omega), if_neg hkf, h4 k hk]
 · rw [if_neg hij] at hs2
   obtain ⟨kp, mp, h4, h5, h6⟩ := he i s2 hs2
   refine ⟨kp, mp, fun k hk => ?_, h5.kt K (by decide), h6.kt K (by decide)⟩
   rw [List.getElem?_set, if_neg (by omega), h4 k hk]
end
/-- a playlist of places -/
structure WinD where
 places : Nat
 written : Nat
 ver : Nat
 seq : Nat
 tgt : Nat
 clo : Bool
 ifr : Bool
 key : Option KeyD
 map : Option MapD
 segs : List SegD
 nums : List Nat
/-- behind k steps -/
structure WinD.Ok (d : WinD) (k : Nat) : Prop where
 len : d.nums.length = d.segs.length
 room : d.segs.length ≤ d.places
 p1 : 1 ≤ d.places
 p12 : d.places ≤ 12
 wr : d.written ≤ d.places
 ver : d.ver < 16
 seq : d.seq ≤ k
 num : ∀ n ∈ d.nums, n ≤ k
 tgt : d.tgt ≤ 20
 segs : ∀ s ∈ d.segs, SegOk s
def WinD.next (d : WinD) : Nat := match d.nums[d.nums.length - 1]? with | some n => n + 1 | none => d.seq
def WinD.push (d : WinD) (s : SegD) : WinD := { d with segs := d.segs ++ [s], nums := d.nums ++ [d.next], tgt := if d.tgt * 8 < s.e then (s.e + 7) / 8 else d.tgt }
def WinD.put (d : WinD) (s : SegD) : WinD := if d.segs.length = d.places then d else d.push s
def WinD.take (d : WinD) : WinD := if d.segs.length = 0 then d else { d with segs := d.segs.tail, nums := d.nums.tail, seq := if d.clo then d.seq else d.seq + 1 }
def WinD.slide (d : WinD) (s : SegD) : WinD := (if !d.clo && decide (d.written ≤ d.segs.length) then d.take else d).put s
def WinD.upd (d : WinD) (f : SegD → SegD) : WinD := { d with segs := match d.segs[d.segs.length - 1]? with | some s => d.segs.set (d.segs.length - 1) (f s) | none => d.segs }
def WinD.least (d : WinD) (n : Nat) : WinD := { d with ver := max d.ver n }
/-- the specification's window -/
def winC (d : WinD) (kp mp : Option Nat) (sv nv : Value) : Array Value := #[.int .i64 d.places, .int .i64 d.written, .int .i64 d.ver, .int .u64 d.seq, .int .i64 d.tgt, .bool d.clo, .bool d.ifr, pto kp, pto mp, sv, nv]
structure WinS (w : World) (base wb : Nat) (d : WinD) : Prop where
 ex : ∃ kp mp sv nv, Blk w wb 51 (winC d kp mp sv nv) ∧ SKey w kp d.key ∧ SMap w mp d.map ∧ SW w base sv d.segs ∧ NW w base nv d.nums
 hb : base ≤ wb
 hw : base ≤ w.heap.size
abbrev DS : List Nat := [51, 32, 34]
theorem WinS.kt {w w' : World} {base wb B : Nat} {d : WinD} {D : List Nat} (h : WinS w base wb d) (K : Kt B D w w') (hD : 51 ∉ D ∧ 32 ∉ D ∧ 34 ∉ D ∧ 56 ∉ D ∧ 61 ∉ D) : WinS w' base wb d := by
 obtain ⟨⟨kp, mp, sv, nv, h1, h2, h3, h4, h5⟩, hb, hw⟩ := h
 exact ⟨⟨kp, mp, sv, nv, h1.kt K hD.1, h2.kt K hD.2.2.2.1, h3.kt K hD.2.2.2.2, h4.kt K hD.2.1 hD.2.2.2.1 hD.2.2.2.2, h5.kt K hD.2.2.1⟩, hb, Nat.le_trans hw K.bel.size⟩
end Go.Proofs.YtdpebhlkgmopkaaDoor
