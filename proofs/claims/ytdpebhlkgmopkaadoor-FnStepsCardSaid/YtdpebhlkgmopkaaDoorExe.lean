/-
 FnSteps: what a step does, in plain terms; the program's step in these terms.
-/
import Derived.Test.YtdpebhlkgmopkaaDoorGas
namespace Go.Proofs.YtdpebhlkgmopkaaDoor
open Go.RowKit
set_option maxRecDepth 100000
structure StepD.Ok (x : StepD) : Prop where
 kind : x.kind ∈ [0, 1, 2, 3, 4, 5, 6, 7, 9, 10, 11, 12, 13, 14]
 seg : SegOk x.seg
 num : x.num < 16
 key : x.kind = 5 ∨ x.kind = 11 → ∃ q, x.seg.key = some q ∧ KV q
 map : x.kind = 6 ∨ x.kind = 12 → ∃ q, x.seg.map = some q
def k0 : KeyD := ⟨⟨#[]⟩, ⟨#[]⟩, ⟨#[]⟩, ⟨#[]⟩, ⟨#[]⟩⟩
def m0 : MapD := ⟨⟨#[]⟩, 0, 0⟩
def WinD.exec (d : WinD) (x : StepD) : WinD :=
 match x.kind with
 | 0 => d.put x.seg
 | 1 => d.take
 | 2 => d.slide (bare x.seg.uri x.seg.title x.seg.e)
 | 3 => { d with clo := true }
 | 4 => d.swin x.num
 | 5 => d.lockL (x.seg.key.getD k0)
 | 6 => d.leadL (x.seg.map.getD m0)
 | 7 => d.rangeL x.seg.li x.seg.off
 | 9 => d.discL
 | 10 => d.dateL x.seg.date
 | 11 => d.lockA (x.seg.key.getD k0)
 | 12 => d.leadA (x.seg.map.getD m0)
 | 13 => d.frm
 | _ => { d with ver := x.num }
def WinD.told (d : WinD) (x : StepD) : Bool :=
 match x.kind with
 | 0 => decide (d.segs.length ≠ d.places)
 | 1 => decide (d.segs.length ≠ 0)
 | 2 => true
 | 3 => true
 | 4 => decide (x.num ≤ d.places)
 | 5 => decide (d.segs.length ≠ 0)
 | 6 => decide (d.segs.length ≠ 0)
 | 7 => decide (d.segs.length ≠ 0)
 | 9 => decide (d.segs.length ≠ 0)
 | 10 => decide (d.segs.length ≠ 0)
 | _ => true
def WinD.execs (d : WinD) (l : List StepD) : WinD := l.foldl WinD.exec d
def WinD.tolds (d : WinD) : List StepD → List Bool
 | [] => []
 | x :: l => d.told x :: (d.exec x).tolds l
theorem WinD.execs_snoc (d : WinD) (l : List StepD) (x : StepD) : d.execs (l ++ [x]) = (d.execs l).exec x := by simp [WinD.execs]
theorem WinD.tolds_snoc (l : List StepD) (x : StepD) : ∀ d : WinD, d.tolds (l ++ [x]) = d.tolds l ++ [(d.execs l).told x] := by
 induction l with
 | nil => intro d; rfl
 | cons y l ih => intro d; simp only [List.cons_append, WinD.tolds, ih]; rfl
theorem WinD.tolds_length (l : List StepD) : ∀ d : WinD, (d.tolds l).length = l.length := by
 induction l with
 | nil => intro d; rfl
 | cons y l ih => intro d; simp [WinD.tolds, ih]
theorem bare_ok {s : SegD} (h : SegOk s) : SegOk (bare s.uri s.title s.e) := ⟨⟨h.1.title, h.1.uri, Nat.zero_le _, Nat.lt_of_lt_of_le Nat.zero_lt_one (by decide), Nat.lt_of_lt_of_le Nat.zero_lt_one (by decide), (fun _ (h : none = some _) => by cases h), (fun _ (h : none = some _) => by cases h)⟩, h.2⟩
section
variable {d : WinD} {k : Nat}
theorem WinD.Ok.with {d' : WinD} (h : d.Ok k) (h1 : d'.segs = d.segs) (h2 : d'.nums = d.nums) (h3 : d'.places = d.places) (h4 : d'.written ≤ d.places) (h5 : d'.ver < 16) (h6 : d'.seq = d.seq) (h7 : d'.tgt = d.tgt) : d'.Ok k :=
 ⟨by rw [h1, h2]; exact h.len, by rw [h1, h3]; exact h.room, by rw [h3]; exact h.p1, by rw [h3]; exact h.p12, by rw [h3]; exact h4, h5, by rw [h6]; exact h.seq, by rw [h2]; exact h.num, by rw [h7]; exact h.tgt, by rw [h1]; exact h.segs⟩
theorem WinD.Ok.exec {x : StepD} (h : d.Ok k) (hx : x.Ok) : (d.exec x).Ok (k + 2) := by
 obtain ⟨kind, seg, num⟩ := x
 have hs := hx.seg
 have hv := h.ver
 have hv4 : max d.ver 4 < 16 := by omega
 have hv5 : max d.ver 5 < 16 := by omega
 have hup : ∀ f : SegD → SegD, (∀ s, SegOk s → SegOk (f s)) → (d.upd f).Ok (k + 2) := fun f hf => (h.upd hf).mono (by omega)
 have h2 : d.Ok (k + 2) := h.mono (by omega)
 have hk := hx.kind
 have hky := hx.key
 have hmp := hx.map
 have hnum := hx.num
 simp only [List.mem_cons, List.not_mem_nil, or_false] at hk
 rcases hk with rfl | rfl | rfl | rfl | rfl | rfl | rfl | rfl | rfl | rfl | rfl | rfl | rfl | rfl
 · exact (h.put hs).mono (by omega)
 · exact h.take.mono (by omega)
 · exact h.slide (bare_ok hs)
 · exact h2.with rfl rfl rfl h.wr hv rfl rfl
 · show (d.swin num).Ok _
   unfold WinD.swin
   split
   · next hn => exact h2.with rfl rfl rfl hn hv rfl rfl
   · exact h2
 · obtain ⟨q, hq, _⟩ := hky (.inl rfl)
   show (d.lockL (seg.key.getD k0)).Ok _
   rw [show seg.key = some q from hq]
   have hqo := hs.1.key q hq
   have hu := hup (fun L => { L with key := some q }) (fun s h => ⟨⟨h.1.title, h.1.uri, h.1.date, h.1.li, h.1.off, fun _ e => by cases e; exact hqo, h.1.map⟩, h.2⟩)
   unfold WinD.lockL
   split
   · exact h2
   · split
     · exact hu
     · exact hu.least (by decide)
 · obtain ⟨q, hq⟩ := hmp (.inl rfl)
   show (d.leadL (seg.map.getD m0)).Ok _
   rw [show seg.map = some q from hq]
   have hqo := hs.1.map q hq
   unfold WinD.leadL
   split
   · exact h2
   · exact (hup (fun L => { L with map := some q }) (fun s h => ⟨⟨h.1.title, h.1.uri, h.1.date, h.1.li, h.1.off, h.1.key, fun _ e => by cases e; exact hqo⟩, h.2⟩)).least (by decide)
 · show (d.rangeL seg.li seg.off).Ok _
   unfold WinD.rangeL
   split
   · exact h2
   · exact (hup _ (fun s h => h.part hs.1.li hs.1.off)).least (by decide)
 · show d.discL.Ok _
   unfold WinD.discL
   split
   · exact h2
   · exact hup _ (fun s h => ⟨⟨h.1.title, h.1.uri, h.1.date, h.1.li, h.1.off, h.1.key, h.1.map⟩, h.2⟩)
 · show (d.dateL seg.date).Ok _
   unfold WinD.dateL
   split
   · exact h2
   · exact hup _ (fun s h => h.date hs.1.date)
 · show (d.lockA (seg.key.getD k0)).Ok _
   unfold WinD.lockA
   split
   · exact h2.with rfl rfl rfl h.wr hv rfl rfl
   · exact h2.with rfl rfl rfl h.wr hv5 rfl rfl
 · exact h2.with rfl rfl rfl h.wr hv5 rfl rfl
 · exact h2.with rfl rfl rfl h.wr hv4 rfl rfl
 · exact h2.with rfl rfl rfl h.wr hnum rfl rfl
theorem WinD.Ok.execs : ∀ (l : List StepD) {d : WinD} {k : Nat}, d.Ok k → (∀ x ∈ l, x.Ok) → (d.execs l).Ok (k + 2 * l.length)
 | [], _, _, h, _ => h
 | x :: l, d, k, h, hl => by
   have := WinD.Ok.execs l (h.exec (hl x List.mem_cons_self)) (fun y hy => hl y (List.mem_cons_of_mem _ hy))
   rw [show k + 2 * (x :: l).length = k + 2 + 2 * l.length by simp; omega]
   exact this
end
theorem step_any {d : WinD} {k B b : Nat} {x : StepD} {kv mv : Value} {w0 : World} (hx : x.Ok) (hO : d.Ok k) (hk9 : k < 900) (H_0 : PlS w0 B b d) (ks_0 : KeySl w0 kv x.seg.key) (ms_0 : MapSl w0 mv x.seg.map) :
   Calls Tryd.prog 28 #[pt b, .agg (stepC x kv mv)] w0 fun e w' => e = .returned (.tuple #[.bool (d.told x), .bool true]) ∧ PlS w' B b (d.exec x) ∧ Kt B DP w0 w' := by
 have he := hx.seg.2
 have hn : x.num ≤ 255 := by have := hx.num; omega
 have hk := hx.kind
 have hky := hx.key
 have hmp := hx.map
 obtain ⟨kind, seg, num⟩ := x
 simp only [List.mem_cons, List.not_mem_nil, or_false] at hk
 rcases hk with rfl | rfl | rfl | rfl | rfl | rfl | rfl | rfl | rfl | rfl | rfl | rfl | rfl | rfl
 · exact step_0 hO hk9 H_0 he hn ks_0 ms_0
 · exact step_1 hO hk9 H_0 he hn ks_0 ms_0
 · exact step_2 hO hk9 H_0 he hn ks_0 ms_0
 · exact step_3 hO hk9 H_0 he hn ks_0 ms_0
 · exact step_4 hO hk9 H_0 he hn ks_0 ms_0
 · obtain ⟨q, hq, hv⟩ := hky (.inl rfl)
   have hq' : seg.key = some q := hq
   have := step_5 hO hk9 H_0 he hn hq' hv ks_0 ms_0
   rw [show d.exec ⟨5, seg, num⟩ = d.lockL q by show d.lockL (seg.key.getD k0) = _; rw [hq']; rfl]
   exact this
 · obtain ⟨q, hq⟩ := hmp (.inl rfl)
   have hq' : seg.map = some q := hq
   have := step_6 hO hk9 H_0 he hn hq' ks_0 ms_0
   rw [show d.exec ⟨6, seg, num⟩ = d.leadL q by show d.leadL (seg.map.getD m0) = _; rw [hq']; rfl]
   exact this
 · exact step_7 hO hk9 H_0 he hn ks_0 ms_0
 · exact step_9 hO hk9 H_0 he hn ks_0 ms_0
 · exact step_10 hO hk9 H_0 he hn ks_0 ms_0
 · obtain ⟨q, hq, hv⟩ := hky (.inr rfl)
   have hq' : seg.key = some q := hq
   have := step_11 hO hk9 H_0 he hn hq' hv ks_0 ms_0
   rw [show d.exec ⟨11, seg, num⟩ = d.lockA q by show d.lockA (seg.key.getD k0) = _; rw [hq']; rfl]
   exact this
 · obtain ⟨q, hq⟩ := hmp (.inr rfl)
   have hq' : seg.map = some q := hq
   have := step_12 hO hk9 H_0 he hn hq' ks_0 ms_0
   rw [show d.exec ⟨12, seg, num⟩ = d.leadA q by show d.leadA (seg.map.getD m0) = _; rw [hq']; rfl]
   exact this
 · exact step_13 hO hk9 H_0 he hn ks_0 ms_0
 · exact step_14 hO hk9 H_0 he hn ks_0 ms_0
section
variable {w w' : World} {B b : Nat} {d : WinD}
theorem PlS.lo_ (H : PlS w B b d) : 0 < B := by
 obtain ⟨g, hd, ms, kp, mp, arr, H⟩ := H
 exact H.lo
/-- a row that is none of the playlist's grows -/
theorem PlS.gr {α : Type} {f : α → Value} {base e : Nat} {v : Value} {l : List α} (H : PlS w B b d) (h : GR w base e f v l) (hb : B ≤ base) (he : e ∉ [104, 90, 95, 113, 115]) (G : w.grownBy w' v.ownBlock) : PlS w' B b d := by
 simp only [List.mem_cons, List.not_mem_nil, or_false, not_or] at he
 refine H.kt (h.ktr (Kt.refl B [e] w) H.hw_ hb (by simp) G) ⟨?_, ?_, ?_, ?_, ?_⟩ H.lo_ <;> simp only [List.mem_cons, List.not_mem_nil, or_false] <;> omega
theorem PlS.gb {g T : Nat} {cs : Array Value} (H : PlS w B b d) (h : Blk w g T cs) (hb : B ≤ g) (he : T ∉ [104, 90, 95, 113, 115]) (G : w.grownBy w' (some g)) : PlS w' B b d := by
 simp only [List.mem_cons, List.not_mem_nil, or_false, not_or] at he
 refine H.kt ((Kt.refl B [T] w).blk H.hw_ h hb (by simp) G) ⟨?_, ?_, ?_, ?_, ?_⟩ H.lo_ <;> simp only [List.mem_cons, List.not_mem_nil, or_false] <;> omega
end
end Go.Proofs.YtdpebhlkgmopkaaDoor
