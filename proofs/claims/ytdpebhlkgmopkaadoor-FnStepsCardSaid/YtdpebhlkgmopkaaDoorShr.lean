/-
 FnSteps: what is kept by types; rows that begin anywhere in their block, from which the first is taken.
-/
import Derived.Test.YtdpebhlkgmopkaaDoorCrq
import Derived.ArgAppend
import Derived.Laws.CopyRow
namespace Go.Proofs.YtdpebhlkgmopkaaDoor
open Go.RowKit
set_option maxRecDepth 100000
/-- below B all is as it was, and so is what is of no type of D -/
structure Kt (B : Nat) (D : List Nat) (w w' : World) : Prop where
 bel : Below B w w'
 keep : ∀ k T c, Blk w k T c → T ∉ D → Blk w' k T c
section
variable {B : Nat} {D D' : List Nat} {w w1 w2 : World}
theorem Kt.refl (B : Nat) (D : List Nat) (w : World) : Kt B D w w := ⟨Below.refl _ _, fun _ _ _ h _ => h⟩
theorem Kt.trans (h : Kt B D w w1) (h1 : Kt B D w1 w2) : Kt B D w w2 := ⟨h.bel.trans h1.bel, fun k T c hb hT => h1.keep k T c (h.keep k T c hb hT) hT⟩
theorem Kt.le (h : Kt B D w w1) (hB : B ≤ w.heap.size) : B ≤ w1.heap.size := Nat.le_trans hB h.bel.size
theorem Kt.nw (h : Kt B D w w1) (hB : B ≤ w.heap.size) (G : w1.grownBy w2 none) : Kt B D w w2 :=
 ⟨h.bel.trans ⟨G.os, G.tape, G.output, G.size, fun k hk => G.block k (Nat.lt_of_lt_of_le hk (h.le hB)) (fun e => by cases e)⟩, fun k T c hb hT => (h.keep k T c hb hT).grown G (fun e => by cases e)⟩
theorem Kt.blk {g T : Nat} {cs : Array Value} (h : Kt B D w w1) (hB : B ≤ w.heap.size) (hb : Blk w1 g T cs) (hg : B ≤ g) (hT : T ∈ D) (G : w1.grownBy w2 (some g)) : Kt B D w w2 := by
 refine ⟨h.bel.trans ⟨G.os, G.tape, G.output, G.size, fun k hk => G.block k (Nat.lt_of_lt_of_le hk (h.le hB)) (fun e => ?_)⟩, fun k T' c hk hT' => ?_⟩
 · obtain rfl := Option.some.inj e
   omega
 · have h1 := h.keep k T' c hk hT'
   refine h1.grown G (fun e => ?_)
   obtain rfl := Option.some.inj e
   exact h1.ne_ hb (fun e => hT' (e ▸ hT)) rfl
theorem Kt.sub (h : Kt B D w w1) (hD : ∀ T, T ∈ D → T ∈ D') : Kt B D' w w1 := ⟨h.bel, fun k T c hb hT => h.keep k T c hb (fun hm => hT (hD T hm))⟩
theorem Kt.low {B' : Nat} (h : Kt B D w w1) (hB : B' ≤ B) : Kt B' D w w1 := ⟨⟨h.bel.os, h.bel.tape, h.bel.output, h.bel.size, fun k hk => h.bel.block k (Nat.lt_of_lt_of_le hk hB)⟩, h.keep⟩
theorem Blk.kt {g T : Nat} {cs : Array Value} (h : Blk w g T cs) (K : Kt B D w w1) (hT : T ∉ D) : Blk w1 g T cs := K.keep g T cs h hT
theorem SKey.kt {kp : Option Nat} {k : Option KeyD} (h : SKey w kp k) (K : Kt B D w w1) (hT : 56 ∉ D) : SKey w1 kp k := by
 cases h with
 | nil => exact .nil
 | mk h ok => exact .mk (h.kt K hT) ok
theorem SMap.kt {kp : Option Nat} {k : Option MapD} (h : SMap w kp k) (K : Kt B D w w1) (hT : 61 ∉ D) : SMap w1 kp k := by
 cases h with
 | nil => exact .nil
 | mk h ok => exact .mk (h.kt K hT) ok
theorem KeySl.kt {v : Value} {k : Option KeyD} (h : KeySl w v k) (K : Kt B D w w1) (hT : 78 ∉ D) : KeySl w1 v k := by
 cases h with
 | nil => exact .nil
 | mk h ok => exact .mk (h.kt K hT) ok
theorem MapSl.kt {v : Value} {k : Option MapD} (h : MapSl w v k) (K : Kt B D w w1) (hT : 80 ∉ D) : MapSl w1 v k := by
 cases h with
 | nil => exact .nil
 | mk h ok => exact .mk (h.kt K hT) ok
theorem KeyP.kt {lo : Nat} {kp : Option Nat} {k : Option KeyD} (h : KeyP w lo kp k) (K : Kt B D w w1) (hT : 113 ∉ D) : KeyP w1 lo kp k := by
 cases h with
 | nil => exact .nil
 | mk h hp ok => exact .mk (h.kt K hT) hp ok
theorem MapP.kt {lo : Nat} {kp : Option Nat} {k : Option MapD} (h : MapP w lo kp k) (K : Kt B D w w1) (hT : 115 ∉ D) : MapP w1 lo kp k := by
 cases h with
 | nil => exact .nil
 | mk h hp ok => exact .mk (h.kt K hT) hp ok
end
/-- n elements of sz cells each, somewhere in a block at base or behind it -/
def ShR (w : World) (base e sz : Nat) (v : Value) (n : Nat) (xs : List Value) : Prop :=
 xs.length = n * sz ∧ ((v = .slice none 0 0 ∧ n = 0) ∨ ∃ g o cap cur, v = .slice (some ⟨g, o * sz, none⟩) n cap ∧ base ≤ g ∧ Blk w g e cur ∧ n ≤ cap ∧ cap ≤ maxLen ∧ (o + cap) * sz ≤ cur.size ∧ (cur.toList.drop (o * sz)).take (n * sz) = xs)
section
variable {w w' : World} {base e sz n g U cap : Nat} {v : Value} {xs : List Value} {cs : Array Value} {B : Nat} {D : List Nat}
theorem ShR.nil : ShR w base e sz (.slice none 0 0) 0 [] := ⟨by simp, .inl ⟨rfl, rfl⟩⟩
theorem ShR.of_own (h : w.ownsRow base e sz v n xs) : ShR w base e sz v n xs := by
 refine ⟨h.1, ?_⟩
 rcases h.2 with h | ⟨g, cap, cur, rfl, h1, h2, h3, h4, h5, h6⟩
 · exact .inl h
 · exact .inr ⟨g, 0, cap, cur, by simp, h1, h2, h3, h4, by simp [h5], by simpa using h6⟩
theorem ShR.kt (h : ShR w base e sz v n xs) (K : Kt B D w w') (hT : e ∉ D) : ShR w' base e sz v n xs := by
 refine ⟨h.1, ?_⟩
 rcases h.2 with h | ⟨g, o, cap, cur, rfl, h1, h2, h3⟩
 · exact .inl h
 · exact .inr ⟨g, o, cap, cur, rfl, h1, h2.kt K hT, h3⟩
theorem ShR.gn (h : ShR w base e sz v n xs) (G : w.grownBy w' none) : ShR w' base e sz v n xs := h.kt (B := 0) (D := []) ((Kt.refl 0 [] w).nw (Nat.zero_le _) G) (by simp)
theorem ShR.gk (h : ShR w base e sz v n xs) (hb : Blk w g U cs) (hU : e ≠ U) (G : w.grownBy w' (some g)) : ShR w' base e sz v n xs := h.kt (B := 0) (D := [U]) ((Kt.refl 0 [U] w).blk (Nat.zero_le _) hb (Nat.zero_le _) (by simp) G) (by simpa using hU)
/-- the block of the row -/
theorem ShR.ktr (h : ShR w base e sz v n xs) {w0 : World} (K : Kt B D w0 w) (hB : B ≤ w0.heap.size) (hb : B ≤ base) (hT : e ∈ D) (G : w.grownBy w' v.ownBlock) : Kt B D w0 w' := by
 rcases h.2 with ⟨rfl, _⟩ | ⟨g, o, cap, cur, rfl, h1, h2, h3⟩
 · exact K.nw hB G
 · exact K.blk hB h2 (Nat.le_trans hb h1) hT G
theorem ShR.cell (h : ShR w base e sz (.slice (some ⟨g, U, none⟩) n cap) n xs) {i : Nat} (hi : i < n * sz) : w.cell? ⟨g, U + i, none⟩ = xs[i]? := by
 rcases h.2 with ⟨h, _⟩ | ⟨g', o, cap', cur, he, h1, h2, h3, h4, h5, h6⟩
 · cases h
 · simp only [Value.slice.injEq, Option.some.injEq, Addr.mk.injEq, true_and, and_true] at he
   obtain ⟨⟨rfl, rfl⟩, rfl⟩ := he
   rw [h2.cell, ← h6, List.getElem?_take, if_pos hi, List.getElem?_drop]
   simp
theorem ShR.shape (h : ShR w base e sz v n xs) (hn : 0 < n) : ∃ g U cap, v = .slice (some ⟨g, U, none⟩) n cap := by
 rcases h.2 with ⟨_, h⟩ | ⟨g, o, cap, cur, rfl, _⟩
 · omega
 · exact ⟨g, _, cap, rfl⟩
theorem ShR.one (h : ShR w base e sz v n xs) : v.oneCell' = true := by
 rcases h.2 with ⟨rfl, _⟩ | ⟨g, o, cap, cur, rfl, _⟩ <;> rfl
theorem grown_setRow {cur : Array Value} (hb : Blk w g e cur) (c : Array Value) : w.grownBy (w.setRow g c) (some g) := ⟨rfl, rfl, rfl, by simp, fun k _ hne => setRow_other _ _ _ _ (fun e => hne (by rw [e]))⟩
theorem ShR.push {t ty : TypeId} {z : Value} {by_ c : Nat} (ht : Tryd.prog.underlying t = some (.slice e)) (hinfo : (Tryd.prog.info? e).map (fun i => (i.zero, i.size, i.bytes)) = some (some z, sz, by_)) (hz : z.cells.size = sz) (hs : 0 < sz) (hby : 0 < by_)
   (HO : ShR w base e sz v n xs) (hB : Blk w g e cs) (hl : cs.size = sz) (h1 : ∀ u ∈ cs.toList, u.oneCell' = true) (hbase : base ≤ w.heap.size) (hn : (n + 1) * by_ ≤ 140737488355328) :
   ∃ v' w', (Builtin.append_ #[t, t] ty #[v, .slice (some ⟨g, 0, none⟩) 1 c]).run Tryd.prog w = .ok v' w' ∧ ShR w' base e sz v' (n + 1) (xs ++ cs.toList) ∧ w.grownBy w' v.ownBlock := by
 have hnews : ∀ j u, cs.toList[j]? = some u → w.cell? ((⟨g, 0, none⟩ : Addr).add j) = some u := fun j u hj => by rw [Lib.add_plain, Nat.zero_add, hB.cell]; simpa using hj
 have hmax : n + 1 ≤ maxLen := Nat.le_trans (Nat.le_mul_of_pos_right _ hby) (Nat.le_trans hn (by decide))
 rcases HO.2 with ⟨rfl, rfl⟩ | ⟨r, o, cap, cur, rfl, hr, hbl, hnc, hcm, hcs, hxs⟩
 · obtain ⟨v', w', h2, h3, h4⟩ := push_run (m := 1) (c := c) (base := base) (ty := ty) ht hinfo hz hs hby (World.ownsRow_nil w base e sz) hB (by omega) h1 hbase (by simpa using hn)
   have := HO.1
   obtain rfl : xs = [] := by simpa using this
   exact ⟨v', w', h2, ShR.of_own (by simpa using h3), h4⟩
 · obtain ⟨i0, hi, hzz⟩ := Option.map_eq_some_iff.1 hinfo
   simp only [Prod.mk.injEq] at hzz
   obtain ⟨hz0, hz1, hz2⟩ := hzz
   have hlc : cs.toList.length = 1 * i0.size := by simp [hl, hz1]
   rcases Nat.lt_or_ge cap (n + 1) with hg | hroom
   · have holds : ∀ j u, xs[j]? = some u → w.cell? ((⟨r, o * sz, none⟩ : Addr).add j) = some u := fun j u hj => by
       have hjn : j < n * sz := by rw [← HO.1]; exact (List.getElem?_eq_some_iff.1 hj).1
       rw [Lib.add_plain, HO.cell hjn]; exact hj
     obtain ⟨v', w', h2, h3, h4⟩ := run_append_arg_grows (P := Tryd.prog) w t ty e i0 z sz by_ ht hi hz0 hz1 hz2 hz hs ⟨r, o * sz, none⟩ n cap xs HO.1 holds ⟨g, 0, none⟩ 1 c cs.toList (by simp [hl]) hnews hg hmax hn
     have h3' : ShR w' w.heap.size e sz v' (n + 1) (xs ++ cs.toList) := ShR.of_own h3
     refine ⟨v', w', h2, ⟨h3'.1, ?_⟩, grown_any h4⟩
     rcases h3'.2 with h | ⟨g', o', cap', cur', h5, h6, h7⟩
     · exact .inl h
     · exact .inr ⟨g', o', cap', cur', h5, Nat.le_trans hbase h6, h7⟩
   · have hfit : o * sz + n * sz + 0 + cs.toList.length ≤ cur.size := by
       refine Nat.le_trans ?_ hcs
       have h5 : cs.toList.length = sz := by simp [hl]
       rw [h5]
       have : o * sz + n * sz + 0 + sz = (o + (n + 1)) * sz := by rw [Nat.add_mul, Nat.add_mul]; omega
       rw [this]
       exact Nat.mul_le_mul_right _ (by omega)
     have hf := run_firstCells_some (P := Tryd.prog) w i0.size 1 ⟨g, 0, none⟩ 1 c cs.toList hlc hnews
     have hst := run_storeCells_at (P := Tryd.prog) r (o * sz + n * sz) e cs.toList 0 cur w hbl hfit h1
     simp only [Nat.add_zero] at hst
     refine ⟨.slice (some ⟨r, o * sz, none⟩) (n + 1) cap, w.setRow r (cur.toList.take (o * sz + n * sz) ++ cs.toList ++ cur.toList.drop (o * sz + n * sz + cs.toList.length)).toArray, ?_, ⟨?_, .inr ⟨r, o, cap, _, rfl, hr, setRow_heap _ _ _ _ _ _ hbl, hroom, hcm, ?_, ?_⟩⟩, grown_setRow hbl _⟩
     · rw [hz1] at hf
       simp [Builtin.append_, run_underlying ht, sizeOf, typeInfo, hi, hz1, Builtin.lenOf, hroom, hf, Addr.add_lit, hst]
     · simp [HO.1, hl, Nat.add_mul]
     · have h5 : cs.toList.length = sz := by simp [hl]
       refine Nat.le_trans hcs ?_
       simp only [List.size_toArray, List.length_append, List.length_take, List.length_drop, Array.length_toList]
       omega
     · have h5 : cs.toList.length = sz := by simp [hl]
       have h6 : (cur.toList.take (o * sz + n * sz)).length = o * sz + n * sz := by rw [List.length_take, Array.length_toList]; omega
       rw [List.append_assoc, List.drop_append_of_le_length (by rw [h6]; omega), List.drop_take, show o * sz + n * sz - o * sz = n * sz by omega, hxs, Nat.add_mul, Nat.one_mul, List.take_append, List.take_of_length_le (by rw [HO.1]; omega), HO.1, show n * sz + sz - n * sz = sz by omega, List.take_append_of_le_length (by omega), List.take_of_length_le (by omega)]
end
end Go.Proofs.YtdpebhlkgmopkaaDoor
