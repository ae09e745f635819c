/-
  impl.WriteMedia of what toMedia makes: the specification's text.
-/
import Derived.Test.YtlphcidpaidclaaGreatDoorSgw
import Derived.Test.YtlphcidpaidclaaGreatDoorWri
namespace Go.Proofs.YtlphcidpaidclaaGreatDoor
open Go.RowKit
set_option maxRecDepth 100000
theorem map_id_of {l : List SegD} {f : SegD → SegD} (h : ∀ s, f s = s) : l.map f = l := by
  induction l with
  | nil => rfl
  | cons s r ih => rw [List.map_cons, h, ih]
theorem tmax_td {td : Nat} (htd : 20 ≤ td) (segs : List SegD) (hok : ∀ s ∈ segs, SegOk s) : tmax td segs = td :=
  tmax_id td segs fun s hs => by have := (hok s hs).2; omega
/-- the segments that are written -/
def written (win : Nat) (map : Option MapD) (segs : List SegD) : List SegD := ((if win = 0 then segs else segs.take win).map fun s => if map.isNone then s else noMap s)
theorem wm_spec {m : MedD} {win : Nat} {iv kv mv : Value} {segs : List SegD} {key : Option KeyD} {map : Option MapD} {base : Nat} {w0 : World} (ok : m.Ok) (hty : m.ty = 0 ∨ m.ty = 2) (hI : IRow w0 base iv segs) (hk : KeySl w0 kv key) (hm : MapSl w0 mv map) (hl : segs.length ≤ 12) (hok : ∀ s ∈ segs, SegOk s) (hwin : win ≤ segs.length)
    (ff64 : FF64) (ff32 : FF32) (htab : TabP w0) (hgt : 7 < w0.heap.size) :
    Calls Tryz.prog 7 #[.agg (impC m iv kv mv win), .bool false] w0 fun e w' => e = .returned (.tuple #[.string (bs (specX m.ver m.ty m.seq m.td m.st m.dsq m.pre m.ifr m.clo key map (written win map segs))), .bool true]) ∧ w0.grownBy w' none := by
  have htd := ok.td
  have htk : ∀ j, tmax m.td (segs.take j) = m.td := fun j => tmax_td (by omega) _ fun s hs => hok s (List.mem_of_mem_take hs)
  have hta := tmax_td (td := m.td) (by omega) segs hok
  have h := wm_any (T := m.td) (seq := m.seq) (ty := m.ty) (dsq := m.dsq) (st := m.st) (ver := m.ver) (win := win) (cap := max 1 segs.length) (ifr := m.ifr) (clo := m.clo) (pre := m.pre) (wh := false) (w0 := w0) hI.seg hk hm (by omega) rfl (by omega) (by have := ok.seq; omega) (by omega) ok.st (by have := ok.ver; omega) hty (by have := ok.dsq; omega)
    (fun j _ => by rw [htk j]; omega) (by rw [hta]; omega) (fun s hs => by have := (hok s hs).2; omega) (fun s hs => ⟨(hok s hs).1, Or.inr ⟨(hok s hs).2, ff32⟩⟩) (Or.inr ff64) htab hgt
  refine h.mono ?_
  rintro e w' ⟨gg, kp, mp, hmp, rfl, hB⟩
  refine ⟨?_, below_grown hB⟩
  rw [encT_eq _ _ _ _ rfl, hta]
  dsimp only
  rw [hmp]
  congr 5
  unfold written nWrit
  dsimp only
  by_cases hw : win = 0
  · rw [if_pos hw, if_pos hw, List.take_length]
  · rw [if_neg hw, if_neg hw, Nat.min_eq_left hwin]
end Go.Proofs.YtlphcidpaidclaaGreatDoor
namespace Go.Proofs.YtlphcidpaidclaaGreatDoor
open Go.RowKit
set_option maxRecDepth 100000
section
variable {x y : Operand}
theorem bo_remi (m n : Nat) (hn : 0 < n) (w : World) : (do eqGuard .rem 3 x y (.int .i64 m) (.int .i64 n); binOp .rem 3 (.int .i64 m) (.int .i64 n) : Sem Value).run Tryz.prog w = .ok (.int .i64 (m % n : Nat)) w := by
  simp [go_sem]
  rw [if_neg (by omega), Int.tmod_eq_emod_of_nonneg (by omega)]
theorem bo_streq (s : ByteArray) (w : World) : (do eqGuard .eql 9 x y (.string s) (.string s); binOp .eql 9 (.string s) (.string s) : Sem Value).run Tryz.prog w = .ok (.bool true) w := by
  simp [go_sem]
end
theorem SRow.slice {w : World} {base n : Nat} {v : Value} {segs : List SegD} (h : SRow w base v segs) (hn : n ≤ segs.length) (h0 : 0 < n) :
    ∃ v', (∀ w', (Instr.sliceAt 42 v none (some (.int .i64 n)) none).run Tryz.prog w' = .ok v' w') ∧ SRow w base v' (segs.take n) := by
  obtain ⟨xs, ⟨h1, h2⟩, h3⟩ := id h
  rcases h2 with ⟨rfl, h2⟩ | ⟨r, cap, cur, rfl, hb, hr, hc, hm, hs, ht⟩
  · omega
  · refine ⟨.slice (some ⟨r, 0, none⟩) n cap, fun w' => ?_, h.take hn (fun e => by cases e) (fun g c e => ?_)⟩
    · have h1 : (n : Int) ≤ (cap : Int) := by omega
      simp [go_sem, h1]
    · injection e with e1 e2 e3
      injection e1 with e1
      rw [e1, e3]
section
variable {w w' : World} {g U : Nat} {cs : Array Value} {base : Nat} {v : Value} {segs : List SegD} {kp mp : Option Nat} {k : Option KeyD} {m : Option MapD}
theorem SKey.kpd (h : SKey w kp k) (hb : Blk w g U cs) (hU : 89 ≠ U) (K : Kp [g] w w') : SKey w' kp k := by
  cases h with
  | nil => exact .nil
  | mk h ok => exact .mk (h.kp K (by simp [h.ne_ hb hU])) ok
theorem SMap.kpd (h : SMap w mp m) (hb : Blk w g U cs) (hU : 92 ≠ U) (K : Kp [g] w w') : SMap w' mp m := by
  cases h with
  | nil => exact .nil
  | mk h ok => exact .mk (h.kp K (by simp [h.ne_ hb hU])) ok
theorem SRow.kpd (h : SRow w base v segs) (hb : Blk w g U cs) (h1 : 53 ≠ U) (h2 : 89 ≠ U) (h3 : 92 ≠ U) (K : Kp [g] w w') : SRow w' base v segs := by
  obtain ⟨xs, ⟨h4, h5⟩, h6⟩ := h
  refine ⟨xs, ⟨h4, ?_⟩, fun i s hs => ?_⟩
  · rcases h5 with h5 | ⟨r, cap, cur, rfl, hg, hh, rr⟩
    · exact .inl h5
    · exact .inr ⟨r, cap, cur, rfl, hg, Blk.kp (show Blk w r 53 cur from hh) K (by simp [(show Blk w r 53 cur from hh).ne_ hb h1]), rr⟩
  · obtain ⟨kp, mp, h7, h8, h9⟩ := h6 i s hs
    exact ⟨kp, mp, h7, h8.kpd hb h2 K, h9.kpd hb h3 K⟩
theorem SRow.own_lt (h : SRow w base v segs) : ∀ x, v.ownBlock = some x → x < w.heap.size := by
  obtain ⟨xs, ⟨h4, h5⟩, h6⟩ := h
  intro x e
  rcases h5 with ⟨rfl, _⟩ | ⟨r, cap, cur, rfl, hg, hh, rr⟩
  · cases e
  · obtain rfl : r = x := by simpa [Value.ownBlock] using e
    exact (show Blk w r 53 cur from hh).lt
theorem SRow.gkx (h : SRow w base v segs) (hx : ∀ x, v.ownBlock = some x → x ≠ g) (hb : Blk w g U cs) (h2 : 89 ≠ U) (h3 : 92 ≠ U) (G : w.grownBy w' (some g)) : SRow w' base v segs := by
  obtain ⟨xs, ⟨h4, h5⟩, h6⟩ := h
  refine ⟨xs, ⟨h4, ?_⟩, fun i s hs => ?_⟩
  · rcases h5 with h5 | ⟨r, cap, cur, rfl, hg, hh, rr⟩
    · exact .inl h5
    · exact .inr ⟨r, cap, cur, rfl, hg, Blk.gk (show Blk w r 53 cur from hh) G (hx r rfl), rr⟩
  · obtain ⟨kp, mp, h7, h8, h9⟩ := h6 i s hs
    exact ⟨kp, mp, h7, h8.gk hb h2 G, h9.gk hb h3 G⟩
theorem SRow.weaken {b2 : Nat} (h : SRow w base v segs) (hb : b2 ≤ base) : SRow w b2 v segs := by
  obtain ⟨xs, ⟨h4, h5⟩, h6⟩ := h
  refine ⟨xs, ⟨h4, ?_⟩, h6⟩
  rcases h5 with h5 | ⟨r, cap, cur, rfl, hg, hh⟩
  · exact .inl h5
  · exact .inr ⟨r, cap, cur, rfl, by omega, hh⟩
theorem SRow.elemB {j : Nat} (h : SRow w base v segs) (hj : j < segs.length) (hb : Blk w g U cs) (hU : 53 ≠ U) :
    ∃ ad kp mp, (∀ w', (Instr.indexAt 42 v (.int .i64 j)).run Tryz.prog w' = .ok (.pointer (some ad)) w') ∧ (∀ w', Kp [g] w w' → (Instr.loadAt 53 (.pointer (some ad))).run Tryz.prog w' = .ok (.agg (ssegC segs[j] kp mp)) w') ∧ SKey w kp segs[j].key ∧ SMap w mp segs[j].map := by
  obtain ⟨xs, ⟨h1, h2⟩, h3⟩ := h
  obtain ⟨kp, mp, h4, h5, h6⟩ := h3 j segs[j] (List.getElem?_eq_getElem hj)
  rcases h2 with ⟨rfl, h2⟩ | ⟨r, cap, cur, rfl, _, hr, hn, _, hc, ht⟩
  · omega
  · have hB : Blk w r 53 cur := hr
    refine ⟨⟨r, 9 * j, none⟩, kp, mp, fun w' => ixsp_run r _ cap j hj w', fun w' K => ?_, h5, h6⟩
    refine ld_agg (n := 9) (fun _ => by kernel_rfl) (fun _ => by kernel_rfl) (hB.kp K (by simp [hB.ne_ hb hU])) rfl fun k hk => ?_
    rw [← h4 k hk, ← ht, List.getElem?_take, if_pos (by omega)]
    simp
theorem Kp.trans1 {w w1 w2 : World} (h : Kp [] w w1) (h1 : Kp [g] w1 w2) (hg : w.heap.size ≤ g) : Kp [] w w2 :=
  ⟨h1.os.trans h.os, h1.tape.trans h.tape, h1.output.trans h.output, Nat.le_trans h.size h1.size, fun k hk hD => (h1.block k (Nat.lt_of_lt_of_le hk h.size) (fun hm => by
    simp only [List.mem_cons, List.not_mem_nil, or_false] at hm
    omega)).trans (h.block k hk hD)⟩
theorem SegOk.noMap {s : SegD} (h : SegOk s) : SegOk (noMap s) := ⟨⟨h.1.title, h.1.uri, h.1.date, h.1.li, h.1.off, h.1.key, fun _ e => by cases e⟩, h.2⟩
end
end Go.Proofs.YtlphcidpaidclaaGreatDoor
