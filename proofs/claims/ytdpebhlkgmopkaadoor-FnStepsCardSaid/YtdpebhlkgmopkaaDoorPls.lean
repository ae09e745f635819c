/-
 FnSteps: the library's playlist of places in memory: a ring of pointers.
-/
import Derived.Test.YtdpebhlkgmopkaaDoorSpz
import Derived.Test.YtdpebhlkgmopkaaDoorFlq
namespace Go.Proofs.YtdpebhlkgmopkaaDoor
open Go.RowKit
set_option maxRecDepth 100000
section
variable {x y : Operand}
theorem uo_eq (m n : Nat) (w : World) : (do eqGuard .eql 42 x y (.int .u64 m) (.int .u64 n); binOp .eql 42 (.int .u64 m) (.int .u64 n) : Sem Value).run Tryd.prog w = .ok (.bool (decide (m = n))) w := by
 have h : decide ((m : Int) = n) = decide (m = n) := decide_eq_decide.2 (by omega)
 simp [go_sem]
 exact h
theorem uo_gt (m n : Nat) (w : World) : (do eqGuard .gtr 42 x y (.int .u64 m) (.int .u64 n); binOp .gtr 42 (.int .u64 m) (.int .u64 n) : Sem Value).run Tryd.prog w = .ok (.bool (decide (n < m))) w := by
 simp [go_sem]
theorem uo_ge (m n : Nat) (w : World) : (do eqGuard .geq 42 x y (.int .u64 m) (.int .u64 n); binOp .geq 42 (.int .u64 m) (.int .u64 n) : Sem Value).run Tryd.prog w = .ok (.bool (decide (n ≤ m))) w := by
 simp [go_sem]
theorem uo_lt (m n : Nat) (w : World) : (do eqGuard .lss 42 x y (.int .u64 m) (.int .u64 n); binOp .lss 42 (.int .u64 m) (.int .u64 n) : Sem Value).run Tryd.prog w = .ok (.bool (decide (m < n))) w := by
 simp [go_sem]
theorem uo_add (m n : Nat) (h : m + n < 1000000) (w : World) : (do eqGuard .add 42 x y (.int .u64 m) (.int .u64 n); binOp .add 42 (.int .u64 m) (.int .u64 n) : Sem Value).run Tryd.prog w = .ok (.int .u64 (m + n : Nat)) w := by
 simp [go_sem]
 rw [IntKind.wrap_u64]; omega
theorem uo_sub (m n : Nat) (h : n ≤ m) (hm : m < 1000000) (w : World) : (do eqGuard .sub 42 x y (.int .u64 m) (.int .u64 n); binOp .sub 42 (.int .u64 m) (.int .u64 n) : Sem Value).run Tryd.prog w = .ok (.int .u64 (m - n : Nat)) w := by
 simp [go_sem]
 rw [IntKind.wrap_u64]; omega
theorem uo_rem (m n : Nat) (h : 0 < n) (hm : m < 1000000) (w : World) : (do eqGuard .rem 42 x y (.int .u64 m) (.int .u64 n); binOp .rem 42 (.int .u64 m) (.int .u64 n) : Sem Value).run Tryd.prog w = .ok (.int .u64 (m % n : Nat)) w := by
 have := bo_remu (x := x) (y := y) (m : Int) (n : Int) w (by omega) (by omega) (by omega)
 rw [this, Int.natCast_emod]
theorem u8_lt (m n : Nat) (w : World) : (do eqGuard .lss 5 x y (.int .u8 m) (.int .u8 n); binOp .lss 5 (.int .u8 m) (.int .u8 n) : Sem Value).run Tryd.prog w = .ok (.bool (decide (m < n))) w := by
 simp [go_sem]
theorem fo_lt (m n : Nat) (w : World) : (do eqGuard .lss 35 x y (.float .f64 m) (.float .f64 n); binOp .lss 35 (.float .f64 m) (.float .f64 n) : Sem Value).run Tryd.prog w = .ok (.bool (FloatKind.f64.format.order m n == some .lt)) w := by
 simp [go_sem]
end
theorem mod_two {a n : Nat} (h : a < 2 * n) : (a < n ∧ a % n = a) ∨ (n ≤ a ∧ a % n = a - n) := by
 rcases Nat.lt_or_ge a n with h1 | h1
 · exact .inl ⟨h1, Nat.mod_eq_of_lt h1⟩
 · refine .inr ⟨h1, ?_⟩
   rw [Nat.mod_eq_sub_mod h1, Nat.mod_eq_of_lt (by omega)]
/-- pointers in a ring, from hd on -/
structure RingOk (cap hd : Nat) (ms : List Nat) (arr : Array Value) : Prop where
 size : arr.size = cap
 hlt : hd < cap
 nodup : ms.Nodup
 le : ms.length ≤ cap
 at_ : ∀ i m, ms[i]? = some m → arr[(hd + i) % cap]? = some (pt m)
section
variable {cap hd m q : Nat} {ms : List Nat} {arr : Array Value}
theorem RingOk.tail (h : RingOk cap hd (m :: ms) arr) : RingOk cap ((hd + 1) % cap) ms arr := by
 have h1 := h.hlt
 have h2 := h.le
 refine ⟨h.size, Nat.mod_lt _ (by omega), (List.nodup_cons.1 h.nodup).2, by simp at h2; omega, fun i m' hm => ?_⟩
 have := h.at_ (i + 1) m' (by simpa using hm)
 rw [← this]
 congr 1
 rw [Nat.mod_add_mod]
 congr 1
 omega
theorem RingOk.push (h : RingOk cap hd ms arr) (hn : ms.length < cap) (hq : q ∉ ms) : RingOk cap hd (ms ++ [q]) (arr.setIfInBounds ((hd + ms.length) % cap) (pt q)) := by
 have h1 := h.hlt
 have hz := h.size
 refine ⟨by simp [hz], h1, ?_, by simp; omega, fun i m' hm => ?_⟩
 · rw [List.nodup_append]
   refine ⟨h.nodup, by simp, fun a ha b hb e => ?_⟩
   simp at hb
   subst hb; subst e
   exact hq ha
 · rw [Array.getElem?_setIfInBounds]
   rcases Nat.lt_or_ge i ms.length with hi | hi
   · rw [List.getElem?_append_left hi] at hm
     rw [if_neg]
     · exact h.at_ i m' hm
     · rcases mod_two (a := hd + ms.length) (n := cap) (by omega) with ⟨a1, a2⟩ | ⟨a1, a2⟩ <;> rcases mod_two (a := hd + i) (n := cap) (by omega) with ⟨b1, b2⟩ | ⟨b1, b2⟩ <;> rw [a2, b2] <;> omega
   · have hi2 : i = ms.length := by
       have := (List.getElem?_eq_some_iff.1 hm).1
       simp at this; omega
     subst hi2
     have hm' : q = m' := by simpa using hm
     subst hm'
     rw [if_pos rfl, if_pos (by rw [hz]; exact Nat.mod_lt _ (by omega))]
theorem RingOk.last (h : RingOk cap hd ms arr) (hn : 0 < ms.length) (hm : ms[ms.length - 1]? = some m) : arr[if (hd + ms.length) % cap = 0 then cap - 1 else (hd + ms.length) % cap - 1]? = some (pt m) := by
 have h1 := h.hlt
 have h2 := h.le
 rw [← h.at_ _ _ hm]
 congr 1
 rcases mod_two (a := hd + ms.length) (n := cap) (by omega) with ⟨a1, a2⟩ | ⟨a1, a2⟩ <;> rcases mod_two (a := hd + (ms.length - 1)) (n := cap) (by omega) with ⟨b1, b2⟩ | ⟨b1, b2⟩ <;> rw [a2, b2] <;> split <;> omega
theorem RingOk.full (h : RingOk cap hd ms arr) (h0 : 0 < ms.length) : (hd = (hd + ms.length) % cap) ↔ ms.length = cap := by
 have h1 := h.hlt
 have h2 := h.le
 rcases mod_two (a := hd + ms.length) (n := cap) (by omega) with ⟨a1, a2⟩ | ⟨a1, a2⟩ <;> rw [a2] <;> omega
end
/-- the segments behind their pointers, their numbers -/
def MsAt (w : World) (B : Nat) (ms : List Nat) (segs : List SegD) (nums : List Nat) : Prop :=
 ms.length = segs.length ∧ nums.length = segs.length ∧ ∀ (i : Nat) (s : SegD) (n m : Nat), segs[i]? = some s → nums[i]? = some n → ms[i]? = some m → ∃ kp mp, B ≤ m ∧ Blk w m 95 (segC n s kp mp) ∧ KeyP w B kp s.key ∧ MapP w B mp s.map
abbrev DP : List Nat := [104, 90, 95]
section
variable {w w' : World} {B B' b g m q lo : Nat} {D : List Nat} {ms : List Nat} {segs : List SegD} {nums : List Nat} {kp mp : Option Nat} {k : Option KeyD} {mk : Option MapD} {cs cq cg : Array Value}
theorem KeyP.kpn (h : KeyP w lo kp k) (K : Kp D w w') (hD : ∀ x, x ∈ D → ∃ T c, Blk w x T c ∧ T ≠ 113) : KeyP w' lo kp k := by
 cases h with
 | nil => exact .nil
 | mk h hp ok => exact .mk (h.kp K (fun hx => by obtain ⟨T, c, h1, h2⟩ := hD _ hx; exact h.ne_ h1 (fun e => h2 e.symm) rfl)) hp ok
theorem MapP.kpn (h : MapP w lo mp mk) (K : Kp D w w') (hD : ∀ x, x ∈ D → ∃ T c, Blk w x T c ∧ T ≠ 115) : MapP w' lo mp mk := by
 cases h with
 | nil => exact .nil
 | mk h hp ok => exact .mk (h.kp K (fun hx => by obtain ⟨T, c, h1, h2⟩ := hD _ hx; exact h.ne_ h1 (fun e => h2 e.symm) rfl)) hp ok
theorem Kt.of_kp {B : Nat} {E : List Nat} (K : Kp D w w') (hB : B ≤ w.heap.size) (hD : ∀ x, x ∈ D → B ≤ x ∧ ∃ T c, Blk w x T c ∧ T ∈ E) : Kt B E w w' :=
 ⟨⟨K.os, K.tape, K.output, K.size, fun k hk => K.block k (Nat.lt_of_lt_of_le hk hB) (fun hx => by have := (hD k hx).1; omega)⟩,
  fun k T c hb hT => hb.kp K (fun hx => by obtain ⟨_, T', c', h1, h2⟩ := hD k hx; exact hb.ne_ h1 (fun e => hT (e ▸ h2)) rfl)⟩
theorem MsAt.kpn (h : MsAt w B ms segs nums) (K : Kp D w w') (hD : ∀ x, x ∈ D → ∃ T c, Blk w x T c ∧ T ≠ 95 ∧ T ≠ 113 ∧ T ≠ 115) : MsAt w' B ms segs nums := by
 refine ⟨h.1, h.2.1, fun i s n m h1 h2 h3 => ?_⟩
 obtain ⟨kp, mp, h4, h5, h6, h7⟩ := h.2.2 i s n m h1 h2 h3
 exact ⟨kp, mp, h4, h5.kp K (fun hx => by obtain ⟨T, c, h1, h2, _⟩ := hD _ hx; exact h5.ne_ h1 (fun e => h2 e.symm) rfl), h6.kpn K (fun x hx => by obtain ⟨T, c, h1, _, h2, _⟩ := hD x hx; exact ⟨T, c, h1, h2⟩), h7.kpn K (fun x hx => by obtain ⟨T, c, h1, _, _, h2⟩ := hD x hx; exact ⟨T, c, h1, h2⟩)⟩
theorem MsAt.kt (h : MsAt w B ms segs nums) (K : Kt B' D w w') (hD : 95 ∉ D ∧ 113 ∉ D ∧ 115 ∉ D) : MsAt w' B ms segs nums := by
 refine ⟨h.1, h.2.1, fun i s n m h1 h2 h3 => ?_⟩
 obtain ⟨kp, mp, h4, h5, h6, h7⟩ := h.2.2 i s n m h1 h2 h3
 exact ⟨kp, mp, h4, h5.kt K hD.1, h6.kt K hD.2.1, h7.kt K hD.2.2⟩
/-- one more -/
theorem MsAt.push {s : SegD} {n : Nat} (h : MsAt w B ms segs nums) (hB : B ≤ q) (hb : Blk w q 95 (segC n s kp mp)) (hk : KeyP w B kp s.key) (hm : MapP w B mp s.map) : MsAt w B (ms ++ [q]) (segs ++ [s]) (nums ++ [n]) := by
 refine ⟨by simp [h.1], by simp [h.2.1], fun i s' n' m' h1 h2 h3 => ?_⟩
 rcases Nat.lt_or_ge i segs.length with hi | hi
 · rw [List.getElem?_append_left hi] at h1
   rw [List.getElem?_append_left (by rw [h.2.1]; exact hi)] at h2
   rw [List.getElem?_append_left (by rw [h.1]; exact hi)] at h3
   exact h.2.2 i s' n' m' h1 h2 h3
 · have hi2 : i = segs.length := by
     have := (List.getElem?_eq_some_iff.1 h1).1
     simp at this; omega
   subst hi2
   obtain rfl : s = s' := by simpa using h1
   rw [← h.2.1] at h2
   obtain rfl : n = n' := by simpa using h2
   rw [← h.1] at h3
   obtain rfl : q = m' := by simpa using h3
   exact ⟨kp, mp, hB, hb, hk, hm⟩
theorem MsAt.tail {s : SegD} {n m : Nat} (h : MsAt w B (m :: ms) (s :: segs) (n :: nums)) : MsAt w B ms segs nums := by
 refine ⟨by simpa using h.1, by simpa using h.2.1, fun i s' n' m' h1 h2 h3 => h.2.2 (i + 1) s' n' m' (by simpa using h1) (by simpa using h2) (by simpa using h3)⟩
/-- one of them is changed -/
theorem MsAt.set {s' : SegD} {n j : Nat} (h : MsAt w B ms segs nums) (hnd : ms.Nodup) (hm : ms[j]? = some m) (hn : nums[j]? = some n) (K : Kp [b, m] w w') (hbb : Blk w b 104 cs) (hmb : Blk w m 95 cq) (hb : Blk w' m 95 (segC n s' kp mp)) (hk : KeyP w' B kp s'.key) (hmp : MapP w' B mp s'.map) : MsAt w' B ms (segs.set j s') nums := by
 refine ⟨by rw [List.length_set]; exact h.1, by rw [List.length_set]; exact h.2.1, fun i s n' m' h1 h2 h3 => ?_⟩
 have hD : ∀ x, x ∈ [b, m] → ∃ T c, Blk w x T c ∧ T ≠ 113 ∧ T ≠ 115 := fun x hx => by
   simp at hx
   rcases hx with rfl | rfl
   · exact ⟨_, _, hbb, by decide, by decide⟩
   · exact ⟨_, _, hmb, by decide, by decide⟩
 rw [List.getElem?_set] at h1
 by_cases hij : j = i
 · subst hij
   rw [hm] at h3
   rw [hn] at h2
   obtain rfl := Option.some.inj h3
   obtain rfl := Option.some.inj h2
   have hj : j < segs.length := by rw [← h.1]; exact (List.getElem?_eq_some_iff.1 hm).1
   rw [if_pos rfl, if_pos hj] at h1
   obtain rfl := Option.some.inj h1
   obtain ⟨s0, hs0⟩ : ∃ s0, segs[j]? = some s0 := ⟨_, List.getElem?_eq_getElem hj⟩
   obtain ⟨_, _, hB, _⟩ := h.2.2 j s0 n m hs0 hn hm
   exact ⟨kp, mp, hB, hb, hk, hmp⟩
 · rw [if_neg hij] at h1
   obtain ⟨kp', mp', h4, h5, h6, h7⟩ := h.2.2 i s n' m' h1 h2 h3
   refine ⟨kp', mp', h4, h5.kp K ?_, h6.kpn K (fun x hx => ?_), h7.kpn K (fun x hx => ?_)⟩
   · simp only [List.mem_cons, List.not_mem_nil, or_false, not_or]
     refine ⟨h5.ne_ hbb (by decide), fun e => ?_⟩
     subst e
     have hi := (List.getElem?_eq_some_iff.1 h3).1
     have hj := (List.getElem?_eq_some_iff.1 hm).1
     exact hij ((List.getElem?_inj hj hnd).1 (hm.trans h3.symm))
   · obtain ⟨T, c, h1, h2, _⟩ := hD x hx; exact ⟨T, c, h1, h2⟩
   · obtain ⟨T, c, h1, _, h2⟩ := hD x hx; exact ⟨T, c, h1, h2⟩
end
/-- the error that the library keeps -/
def EV (w : World) : Prop := ∃ t v, w.cell? ⟨0, 0, none⟩ = some (.iface t v)
/-- the library's playlist -/
def plC (d : WinD) (g hd : Nat) (kp mp : Option Nat) : Array Value :=
 #[.float .f64 (fn d.tgt), .int .u64 d.seq, .slice (some ⟨g, 0, none⟩) d.places d.places, .string ⟨#[]⟩, .bool d.ifr, .bool d.clo, .int .u64 0, .int .u64 0, .float .f64 0, .bool false, .bool false, .int .i64 0, .int .u64 d.written, .int .u64 d.places, .int .u64 hd, .int .u64 ((hd + d.segs.length) % d.places : Nat), .int .u64 d.segs.length, .slice none 0 0, .int .i64 0, .int .i8 0, .int .u8 d.ver, pto kp, pto mp]
structure PlP (w : World) (B b : Nat) (d : WinD) (g hd : Nat) (ms : List Nat) (kp mp : Option Nat) (arr : Array Value) : Prop where
 blk : Blk w b 104 (plC d g hd kp mp)
 fkey : KeyP w B kp d.key
 fmap : MapP w B mp d.map
 row : Blk w g 90 arr
 ring : RingOk d.places hd ms arr
 fms : MsAt w B ms d.segs d.nums
 hb : B ≤ b
 hg : B ≤ g
 hw : B ≤ w.heap.size
 ev : EV w
 lo : 0 < B
def PlS (w : World) (B b : Nat) (d : WinD) : Prop := ∃ g hd ms kp mp arr, PlP w B b d g hd ms kp mp arr
section
variable {w w' : World} {B b g hd : Nat} {d d' : WinD} {ms : List Nat} {kp mp kp' mp' : Option Nat} {arr : Array Value} {B' : Nat} {D : List Nat}
theorem cell_eq {k : Nat} (h : w'.heap[k]? = w.heap[k]?) (o : Nat) : w'.cell? ⟨k, o, none⟩ = w.cell? ⟨k, o, none⟩ := by simp only [World.cell?, h]
theorem EV.ofkp (h : EV w) (K : Kp D w w') (hl : ∀ x ∈ D, B ≤ x) (hw : B ≤ w.heap.size) (lo : 0 < B) : EV w' := by
 obtain ⟨t, v, h⟩ := h
 refine ⟨t, v, ?_⟩
 rw [cell_eq (K.block _ (by omega) (fun hx => by have := hl _ hx; omega))]
 exact h
theorem EV.below (h : EV w) (K : Below B w w') (lo : 0 < B) : EV w' := by
 obtain ⟨t, v, h⟩ := h
 refine ⟨t, v, ?_⟩
 rw [cell_eq (K.block _ lo)]
 exact h
theorem PlP.gn (H : PlP w B b d g hd ms kp mp arr) (G : w.grownBy w' none) : PlP w' B b d g hd ms kp mp arr :=
 ⟨H.blk.gn G, H.fkey.gn G, H.fmap.gn G, H.row.gn G, H.ring, H.fms.kt (Kt.of_none G) (by simp), H.hb, H.hg, Nat.le_trans H.hw G.size, H.ev.below ((Kt.refl B [] w).nw H.hw G).bel H.lo, H.lo⟩
/-- the playlist's block is changed alone -/
theorem PlP.chg (H : PlP w B b d g hd ms kp mp arr) (K : Kp [b] w w') (hB : Blk w' b 104 (plC d' g hd kp' mp')) (hk : KeyP w' B kp' d'.key) (hm : MapP w' B mp' d'.map) (hs : d'.segs = d.segs) (hn : d'.nums = d.nums) (hp : d'.places = d.places) : PlS w' B b d' ∧ Kt B DP w w' := by
 have hx : ∀ x, x ∈ [b] → x = b := fun x h => by simpa using h
 refine ⟨⟨g, hd, ms, kp', mp', arr, hB, hk, hm, H.row.kp K (by simpa using H.row.ne_ H.blk (by decide)), ?_, ?_, H.hb, H.hg, Nat.le_trans H.hw K.size, H.ev.ofkp K (fun x h => by rw [hx x h]; exact H.hb) H.hw H.lo, H.lo⟩, Kt.of_kp K H.hw (fun x h => by rw [hx x h]; exact ⟨H.hb, _, _, H.blk, by decide⟩)⟩
 · rw [hp]; exact H.ring
 · rw [hs, hn]; exact H.fms.kpn K (fun x h => by rw [hx x h]; exact ⟨_, _, H.blk, by decide, by decide, by decide⟩)
theorem PlP.keyk (H : PlP w B b d g hd ms kp mp arr) (K : Kp [b] w w') : KeyP w' B kp d.key := H.fkey.kpn K (fun x h => by rw [show x = b by simpa using h]; exact ⟨_, _, H.blk, by decide⟩)
theorem PlP.mapk (H : PlP w B b d g hd ms kp mp arr) (K : Kp [b] w w') : MapP w' B mp d.map := H.fmap.kpn K (fun x h => by rw [show x = b by simpa using h]; exact ⟨_, _, H.blk, by decide⟩)
/-- the playlist's block and the last segment's are changed -/
theorem PlP.chgm {m n : Nat} {L' : SegD} {kp2 mp2 : Option Nat} {cq : Array Value} (H : PlP w B b d g hd ms kp mp arr) (K : Kp [b, m] w w') (hm : ms[d.segs.length - 1]? = some m) (hn : d.nums[d.segs.length - 1]? = some n) (hmq : Blk w m 95 cq) (hBm : B ≤ m)
   (hB : Blk w' b 104 (plC d' g hd kp mp)) (hM : Blk w' m 95 (segC n L' kp2 mp2)) (hk2 : KeyP w' B kp2 L'.key) (hm2 : MapP w' B mp2 L'.map) (hk : d'.key = d.key) (hmm : d'.map = d.map) (hs : d'.segs = d.segs.set (d.segs.length - 1) L') (hnn : d'.nums = d.nums) (hp : d'.places = d.places) : PlS w' B b d' ∧ Kt B DP w w' := by
 have hx : ∀ x, x ∈ [b, m] → x = b ∨ x = m := fun x h => by simpa using h
 refine ⟨⟨g, hd, ms, kp, mp, arr, hB, ?_, ?_, H.row.kp K ?_, ?_, ?_, H.hb, H.hg, Nat.le_trans H.hw K.size, H.ev.ofkp K (fun x h => by rcases hx x h with rfl | rfl; exact H.hb; exact hBm) H.hw H.lo, H.lo⟩, Kt.of_kp K H.hw (fun x h => by rcases hx x h with rfl | rfl; exact ⟨H.hb, _, _, H.blk, by decide⟩; exact ⟨hBm, _, _, hmq, by decide⟩)⟩
 · rw [hk]; exact H.fkey.kpn K (fun x h => by rcases hx x h with rfl | rfl; exact ⟨_, _, H.blk, by decide⟩; exact ⟨_, _, hmq, by decide⟩)
 · rw [hmm]; exact H.fmap.kpn K (fun x h => by rcases hx x h with rfl | rfl; exact ⟨_, _, H.blk, by decide⟩; exact ⟨_, _, hmq, by decide⟩)
 · simp only [List.mem_cons, List.not_mem_nil, or_false, not_or]
   exact ⟨H.row.ne_ H.blk (by decide), H.row.ne_ hmq (by decide)⟩
 · rw [hp]; exact H.ring
 · rw [hs, hnn]; exact H.fms.set H.ring.nodup hm hn K H.blk hmq hM hk2 hm2
theorem PlS.kt {w w' : World} (H : PlS w B b d) (K : Kt B' D w w') (hD : 104 ∉ D ∧ 90 ∉ D ∧ 95 ∉ D ∧ 113 ∉ D ∧ 115 ∉ D) (hB' : 0 < B') : PlS w' B b d := by
 obtain ⟨g, hd, ms, kp, mp, arr, H⟩ := H
 exact ⟨g, hd, ms, kp, mp, arr, H.blk.kt K hD.1, H.fkey.kt K hD.2.2.2.1, H.fmap.kt K hD.2.2.2.2, H.row.kt K hD.2.1, H.ring, H.fms.kt K ⟨hD.2.2.1, hD.2.2.2.1, hD.2.2.2.2⟩, H.hb, H.hg, Nat.le_trans H.hw K.bel.size, H.ev.below K.bel hB', H.lo⟩
end
theorem errnew (s : ByteArray) (w : World) : Calls Tryd.prog 54 #[.string s] w fun e w' => ∃ t p, e = .returned (.iface t p) ∧ w.grownBy w' none := by
 go_enter Tryd.func54, Tryd.ntmps54
 go_wp2
 go_ret
 exact ⟨_, _, rfl, grown_alloc _ _⟩
end Go.Proofs.YtdpebhlkgmopkaaDoor
