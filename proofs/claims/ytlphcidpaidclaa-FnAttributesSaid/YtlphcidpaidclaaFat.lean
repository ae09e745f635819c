/-
  The walk of the law FnAttributes: it returns true at every list of numbers.
-/
import Derived.Test.YtlphcidpaidclaaAtp
namespace Go.Proofs.Ytlphcidpaidclaa
open Go.RowKit Go.Maps

theorem decimal_q (n : Int) (w : World) (h0 : 0 ≤ n) (hm : n ≤ 18446744073709551615) :
    Calls Try.prog 4 #[.int .u64 n] w fun e w' => e = .returned (.string (bs (Lib.decDigits n.toNat))) ∧ w' = w :=
  (decimal_any n w h0 hm).mono fun _ _ ⟨h1, h2⟩ => ⟨h1, h2.symm⟩

/-- what holds at the head of a round: k attributes have been made -/
def FaRel (w : World) (m : Nat) (v i : Value) (wr : World) : Prop :=
  ∃ (k : Nat) (ts : List Attr), k ≤ m ∧ i = .int .i64 k ∧ v = .string (bs (txt ts)) ∧ ts.length = k ∧ (txt ts).length ≤ 40 * k ∧ (∀ t ∈ ts, okAttr t) ∧
    (∀ t ∈ ts, ∃ j : Nat, j < k ∧ t.1[2]? = some (UInt8.ofNat (48 + j))) ∧ (ts.map (·.1)).Nodup ∧ mapRow wr w.heap.size k (ts.map fun t => (t.1, t.2.1)) ∧ Below w.heap.size w wr

/-- the bytes of a value -/
def okc (q : Bool) (x : UInt8) : Prop := x ∈ if q then ([97, 98, 32, 44, 61, 58, 47, 46, 48, 120, 45] : List UInt8) else [97, 98, 88, 89, 58, 47, 46, 48, 120, 45, 57]

theorem enc_tab (L : ByteArray) (hL : ∀ i : Fin L.size, L[i].toNat < 128) : ∀ (i : Nat) (h : i < L.size), Utf8.encode (wrap32 ((L[i]'h).toNat : Int)) = bs [L[i]'h] := by
  intro i h
  have := hL ⟨i, h⟩
  have this : (L[i]'h).toNat < 128 := this
  rw [show wrap32 ((L[i]'h).toNat : Int) = ((L[i]'h).toNat : Int) from by unfold wrap32; omega, encode_ascii _ this]
  simp
theorem tab_mem (L : ByteArray) (i : Nat) (h : i < L.size) : L[i]'h ∈ L.data.toList := by
  have : L[i]'h = L.data.toList[i]'(by simpa using h) := rfl
  rw [this]; exact List.getElem_mem _

theorem okc_quote {q : Bool} {t : List UInt8} (h : ∀ x ∈ t, okc q x) : (∀ c ∈ t, c ≠ 34) ∧ (q = false → ∀ c ∈ t, c ≠ 44 ∧ c ≠ 32) := by
  constructor
  · intro c hc e
    have := h c hc
    subst e
    cases q <;> simp [okc] at this
  · rintro rfl c hc
    have := h c hc
    constructor <;> (intro e; subst e; simp [okc] at this)
/-- the value as it stands, or between two signs: a value that is read again as it is -/
theorem val_ends (q : Bool) (t : List UInt8) (h1 : 0 < t.length) (h : ∀ x ∈ t, okc q x) :
    (okVal q t ∧ ((((bs t)[0]'h1).toNat : Int) == 32) = false ∧ ((((bs t)[t.length - 1]'(Nat.sub_lt h1 Nat.one_pos)).toNat : Int) == 32) = false) ∨
    (okVal q ([120] ++ t ++ [120]) ∧ ((((bs t)[0]'h1).toNat : Int) == 32) = true) ∨
    (okVal q ([120] ++ t ++ [120]) ∧ ((((bs t)[0]'h1).toNat : Int) == 32) = false ∧ ((((bs t)[t.length - 1]'(Nat.sub_lt h1 Nat.one_pos)).toNat : Int) == 32) = true) := by
  obtain ⟨h34, h44⟩ := okc_quote h
  have hw : okVal q ([120] ++ t ++ [120]) := by
    refine ⟨by simp, fun c hc => ?_, fun hq c hc => ?_, by simp, by rw [List.getLast?_append]; simp⟩
    · simp only [List.mem_append, List.mem_singleton] at hc
      rcases hc with (rfl | hc) | rfl
      · decide
      · exact h34 c hc
      · decide
    · simp only [List.mem_append, List.mem_singleton] at hc
      rcases hc with (rfl | hc) | rfl
      · decide
      · exact (h44 hq c hc).1
      · decide
  have g0 : (bs t)[0]'h1 = t[0] := rfl
  have g1 : (bs t)[t.length - 1]'(Nat.sub_lt h1 Nat.one_pos) = t[t.length - 1] := rfl
  by_cases a0 : t[0] = 32
  · exact Or.inr (Or.inl ⟨hw, bEq_yes (c := 32) rfl (g0.trans a0)⟩)
  · by_cases a1 : t[t.length - 1] = 32
    · exact Or.inr (Or.inr ⟨hw, bEq_no (c := 32) rfl (g0 ▸ a0), bEq_yes (c := 32) rfl (g1.trans a1)⟩)
    · refine Or.inl ⟨⟨List.length_pos_iff.1 h1, h34, fun hq c hc => (h44 hq c hc).1, ?_, ?_⟩, bEq_no (c := 32) rfl (g0 ▸ a0), bEq_no (c := 32) rfl (g1 ▸ a1)⟩
      · rw [List.head?_eq_getElem?, List.getElem?_eq_getElem h1]; simpa using a0
      · rw [List.getLast?_eq_getElem?, List.getElem?_eq_getElem (Nat.sub_lt h1 Nat.one_pos)]; simpa using a1

theorem lineB_len (a v : List UInt8) (q : Bool) : (lineB a v q).length ≤ a.length + v.length + 3 := by cases q <;> simp [lineB] <;> omega
theorem name_is {n : Int} {k : Nat} {nm : ByteArray} (hk : k < 10) (h : (({ data := #[65, 45] } : ByteArray) ++ bs (Lib.decDigits k)) ++ ({ data := #[66, 67, 88, 89, 90] } : ByteArray).extract 0 (n % 6).toNat = nm) :
    nm.data.toList = [65, 45, UInt8.ofNat (48 + k)] ++ ([66, 67, 88, 89, 90] : List UInt8).take (n % 6).toNat := by
  rw [← h, data_app, data_app, Lib.extract_data]
  have : Lib.decDigits k = [UInt8.ofNat (48 + k)] := by unfold Lib.decDigits; rw [dif_pos hk]
  rw [data_bs, this]; simp
theorem name_ok {n : Int} {k : Nat} {nm : ByteArray} (hk : k < 10) (h : nm.data.toList = [65, 45, UInt8.ofNat (48 + k)] ++ ([66, 67, 88, 89, 90] : List UInt8).take (n % 6).toNat) : okName nm.data.toList := by
  rw [h]
  refine ⟨by simp, fun c hc => ?_⟩
  rcases List.mem_append.1 hc with hc | hc
  · simp only [List.mem_cons, List.not_mem_nil, or_false] at hc
    rcases hc with rfl | rfl | rfl
    · decide
    · decide
    · have : ∀ i : Fin 10, nbB (UInt8.ofNat (48 + i.val)) = true := by decide
      exact this ⟨k, hk⟩
  · have := List.mem_of_mem_take hc
    have h2 : ∀ c ∈ ([66, 67, 88, 89, 90] : List UInt8), nbB c = true := by decide
    exact h2 c this
theorem fa_step {w wr w2 : World} {m k nq : Nat} {n : Int} {ts : List Attr} {nm V T : ByteArray} {q : Bool} {vl : List UInt8} (hlt : k < m) (hm : m ≤ 10) (htl : ts.length = k) (htx : (txt ts).length ≤ 40 * k)
    (hok : ∀ t ∈ ts, okAttr t) (hix : ∀ t ∈ ts, ∃ j : Nat, j < k ∧ t.1[2]? = some (UInt8.ofNat (48 + j))) (hnd : (ts.map (·.1)).Nodup) (hbl : Below w.heap.size w wr) (hv : okVal q vl) (hvl : vl.length ≤ 11) (hV : V.data.toList = vl)
    (hnm : (({ data := #[65, 45] } : ByteArray) ++ bs (Lib.decDigits k)) ++ ({ data := #[66, 67, 88, 89, 90] } : ByteArray).extract 0 (n % 6).toNat = nm)
    (hm2 : w2.ownsMap Try.prog 9 (plainElem (H := Unit) Try.prog 9) w.heap.size (k + 1) ((putAll (.map []) (ts.map fun t => (t.1, t.2.1))).put (.string nm.data.toList) (.lit (.string V.data.toList))))
    (hg2 : (wr.drewN nq).grownBy w2 (some w.heap.size)) (hB : w.heap.size ≤ wr.heap.size) (hT : T.data.toList = txt ts ++ ((if ts = [] then [] else [44]) ++ lineB nm.data.toList vl q)) :
    FaRel w m (.string T) (.int .i64 ((k : Int) + 1)) w2 := by
  have hn := name_is (n := n) (by omega) hnm
  have hno := name_ok (n := n) (by omega) hn
  have h2 : nm.data.toList[2]? = some (UInt8.ofNat (48 + k)) := by rw [hn]; simp
  have hnl : nm.data.toList.length ≤ 8 := by rw [hn]; simp; omega
  have hsn := txt_snoc (nm.data.toList, vl, q) ts
  refine ⟨k + 1, ts ++ [(nm.data.toList, vl, q)], hlt, by go_num, congrArg Value.string (bs_eq (by rw [hT, hsn])), by simp [htl], ?_, ?_, ?_, ?_, ?_, ?_⟩
  · rw [hsn]
    have := lineB_len nm.data.toList vl q
    by_cases e : ts = [] <;> simp [e] at * <;> omega
  · intro t ht
    rcases List.mem_append.1 ht with h | h
    · exact hok t h
    · rw [List.mem_singleton.1 h]; exact ⟨hno, hv⟩
  · intro t ht
    rcases List.mem_append.1 ht with h | h
    · obtain ⟨j, hj, e⟩ := hix t h; exact ⟨j, by omega, e⟩
    · rw [List.mem_singleton.1 h]; exact ⟨k, by omega, h2⟩
  · rw [List.map_append, List.nodup_append]
    refine ⟨hnd, by simp, fun a ha b hb => ?_⟩
    obtain ⟨t, ht, rfl⟩ := List.mem_map.1 ha
    have hb : b = nm.data.toList := by simpa using hb
    subst hb
    obtain ⟨j, hj, e⟩ := hix t ht
    intro e2
    rw [e2, h2] at e
    have e3 := congrArg UInt8.toNat (Option.some.inj e)
    simp at e3
    omega
  · rw [List.map_append, mapRow]
    have := putAll_snoc (.map []) (ts.map fun t => (t.1, t.2.1)) (nm.data.toList, vl)
    simp only [List.map_cons, List.map_nil]
    rw [this, ← hV]; exact hm2
  · exact Below.grown (w := wr.drewN nq) ⟨hbl.os, hbl.tape, hbl.output, hbl.size, hbl.block⟩ hg2 hB (by simp)

theorem text_more {ts : List Attr} {k : Nat} {L : List UInt8} (htl : ts.length = k) (h : 0 < k) : ((bs (txt ts) ++ ({ data := #[44] } : ByteArray)) ++ bs L).data.toList = txt ts ++ ((if ts = [] then [] else [44]) ++ L) := by
  rw [if_neg (fun e => by rw [e] at htl; simp at htl; omega), data_app, data_app]
  simp
theorem text_first {ts : List Attr} {k : Nat} {L : List UInt8} (htl : ts.length = k) (h : ¬ 0 < k) : (bs (txt ts) ++ bs L).data.toList = txt ts ++ ((if ts = [] then [] else [44]) ++ L) := by
  rw [if_pos (List.eq_nil_of_length_eq_zero (by omega)), data_app]
  simp

theorem txt_key {ts : List Attr} (p : List UInt8 × List UInt8) (h : p ∈ ts.map fun t => (t.1, t.2.1)) : p.1.length ≤ (txt ts).length := by
  obtain ⟨t, ht, rfl⟩ := List.mem_map.1 h
  clear h
  induction ts with
  | nil => simp at ht
  | cons x r ih =>
    simp only [txt, List.length_append]
    rcases List.mem_cons.1 ht with rfl | ht
    · have : t.1.length ≤ (lineB t.1 t.2.1 t.2.2).length := by rw [lineB_eq]; simp
      omega
    · have := ih ht
      rw [if_neg (List.ne_nil_of_mem ht), List.length_cons]
      show t.1.length ≤ _
      have : t.1.length ≤ (txt r).length := this
      omega

theorem blw {B : Nat} {a w : World} (h : Below B a w) (n : Nat) : Below B a (w.drewN n) := ⟨h.os, h.tape, h.output, h.size, h.block⟩
/-- what holds at the head of a round of the last loop -/
def FeRel (w : World) (v : Value) (qs : Pairs) (n : Nat) (ps : Pairs) (B1 : Nat) (c : Value) (wx : World) : Prop :=
  ∃ i : Nat, i ≤ qs.length ∧ c = .int .i64 i ∧ wx.ownsRow B1 31 2 v qs.length (pairsCells qs) ∧ mapRow wx w.heap.size n ps ∧ Below w.heap.size w wx ∧ w.heap.size < wx.heap.size

set_option maxRecDepth 100000 in
set_option maxHeartbeats 2000000 in
theorem fa_walk (ao : Option Addr) (b off len cap m : Nat) (zs : List Int) (w : World) (hao : 0 < len → ao = some ⟨b, off, none⟩ ∧ b < w.heap.size) (hlen : len ≤ 100) (hcap : len ≤ cap) (hm : m = min len 10)
    (hc : ∀ j, j < len → w.cell? ⟨b, off + j, none⟩ = some (.int .u32 (zs.getD j 0))) (hz : ∀ j, 0 ≤ zs.getD j 0 ∧ zs.getD j 0 ≤ 4294967295) :
    Calls Try.prog 3 #[.slice ao len cap] w fun e w' => e = .returned (.bool true) ∧ Below w.heap.size w w' := by
  have hmm := @run_makeMap Try.prog
  have hml : m ≤ len := by omega
  have hm10 : m ≤ 10 := by omega
  have hmin : min (len : Int) 10 = (m : Int) := by omega
  have HM := Lib.hid hm
  have HC := Lib.hid hc
  have HZ := Lib.hid hz
  have HAO := Lib.hid hao
  clear hc hz hm hao
  go_enter Try.func3, Try.ntmps3
  go_wp2
  go_loopw [3, 29] (fun v i wr => FaRel w m v i wr) (fun _ i _ => m - (intOf i).toNat)
  case atStart => exact ⟨0, [], by omega, rfl, rfl, rfl, by simp [txt], by simp, by simp, by simp, World.ownsMap_made _ _ _ _, (Below.refl _ _).alloc (Nat.le_refl _) _⟩
  case round =>
    obtain ⟨k, ts, hk, rfl, rfl, htl, htx, hok, hidx, hnd, hmap, hbel⟩ := hrel
    have HTL := Lib.hid htl
    have HOK := Lib.hid hok
    have HIX := Lib.hid hidx
    have HND := Lib.hid hnd
    have HMP := Lib.hid hmap
    have HBL := Lib.hid hbel
    clear htl hok hidx hnd hmap hbel
    by_cases hlt : k < m
    · obtain ⟨rfl, hb⟩ := HAO.out (by omega)
      have hcell : wr.cell? ⟨b, off + k, none⟩ = some (.int .u32 (zs.getD k 0)) := by
        rw [← HC.out k (by omega)]; exact HBL.out.cell (p := ⟨b, off + k, none⟩) hb
      have hz0 := (HZ.out k).1
      have hz1 := (HZ.out k).2
      generalize zs.getD k 0 = n at *
      have hn6 : 0 ≤ n % 6 ∧ n % 6 ≤ 5 := by omega
      have hdl := decDigits_len 2 k (by omega) (by omega)
      have HDQ := Lib.hid fun w => decimal_q (k : Int) w (by omega) (by omega)
      go_wp2
      go_quiet ((go_at_call 4; exact Calls.quiet_of_same (HDQ.out _)))
      go_wp2
      generalize hnm : (({ data := #[65, 45] } : ByteArray) ++ bs (Lib.decDigits k)) ++ ({ data := #[66, 67, 88, 89, 90] } : ByteArray).extract 0 (n % 6).toNat = nm
      generalize hgq : (bits BinOp.and IntKind.u32 (n / 8) 1 == 1) = q
      obtain ⟨c, hcc⟩ : ∃ c : Nat, (c : Int) = n / 16 % 9 := ⟨(n / 16 % 9).toNat, by omega⟩
      have hc8 : c ≤ 8 := by omega
      rw [← hcc]
      have hns : nm.size ≤ 8 := by
        have e := name_is (n := n) (k := k) (by omega) hnm
        have e2 : nm.size = nm.data.toList.length := rfl
        rw [e2, e]; simp; omega
      have HKN := Lib.hid (WideMaps.keyOf_string_mk (s := nm) Try.underlying9 (by unfold maxLen; omega))
      have HNM := Lib.hid hnm
      clear hnm hgq hcc
      cases q
      · go_loopw [8, 51] (fun v i wx => ∃ (j : Nat) (t : List UInt8), j ≤ 1 + c ∧ i = .int .i64 j ∧ v = .string (bs t) ∧ t.length = j ∧ Hid (∀ x ∈ t, okc false x) ∧ wx = wr.drewN nq) (fun _ i _ => 1 + c - (intOf i).toNat)
        case atStart => exact ⟨0, [], by omega, rfl, rfl, rfl, Lib.hid (by simp), rfl⟩
        case round =>
          obtain ⟨j, t, hj, rfl, rfl, hjt, HOC, rfl⟩ := hrel
          have HJT := Lib.hid hjt
          clear hjt
          by_cases hj2 : j < 1 + c
          · have hE := enc_tab ({ data := #[97, 98, 88, 89, 58, 47, 46, 48, 120, 45, 57] } : ByteArray) (by decide)
            have hidx : 0 ≤ (n / 128 + (j : Int) * 5) % 11 ∧ (n / 128 + (j : Int) * 5) % 11 < 11 := by omega
            have hsz : t.length ≤ 9 := by rw [HJT.out]; omega
            go_wp2
            go_roundw
            case rel => exact ⟨j + 1, t ++ [_], by omega, by go_num, congrArg Value.string (ByteArray.mk_append_mk _ _), by rw [List.length_append, HJT.out]; rfl, Lib.hid (fun x hx => by rcases List.mem_append.1 hx with h | h; exact HOC.out x h; rw [List.mem_singleton.1 h]; exact tab_mem _ _ _), by first | rfl | trivial⟩
            case measure => simp [intOf]; omega
          · have htl9 : t.length ≤ 9 := by rw [HJT.out]; omega
            have htl1 : 0 < t.length := by rw [HJT.out]; omega
            have hj0 : (j : Int) = 1 + c := by omega
            have HJ0 := Lib.hid hj0
            clear hj0
            rcases val_ends false t htl1 HOC.out with ⟨hv, he0, he1⟩ | ⟨hv, he0⟩ | ⟨hv, he0, he1⟩
            · have HV := Lib.hid hv
              clear hv
              go_wp2_with fail
              all_goals
                have hVs : (bs t).size ≤ 11 := by rw [size_bs]; omega
                refine (line_any _ _ _ _ (by omega) (by omega)).mono ?_
                rintro e w' ⟨rfl, rfl⟩
                generalize hln : bs (lineB _ _ _) = ln
                have hls : ln.size ≤ 40 := by rw [← hln, size_bs]; exact Nat.le_trans (lineB_len _ _ _) (by show nm.size + t.length + 3 ≤ 40; omega)
                have HLN := Lib.hid hln
                clear hln
                go_wp2_with (at_mapUpdate; refine wpList_mapUpdate_own _ rfl _ _ _ 23 rfl 9 9 keyS Try.underlying23 (plainElem (H := Unit) Try.prog 9) w.heap.size k (putAll (.map []) (ts.map fun t => (t.1, t.2.1))) rfl (drewMap _ HMP.out) (by unfold maxLen; omega) _ _ (.string nm.data.toList) rfl rfl HKN.out _ _ (plainElem_string Try.underlying9 (by unfold maxLen; omega)) ?_; intro w2 hm2 hg2)
                have HM2 := Lib.hid hm2
                have HG2 := Lib.hid hg2
                clear hm2 hg2
                go_wp2
                go_roundw
                case rel => exact fa_step hlt hm10 HTL.out htx HOK.out HIX.out HND.out HBL.out HV.out (by omega) (data_bs t) HNM.out HM2.out HG2.out HBL.out.size (by rw [← HLN.out, data_bs]; first | exact text_more HTL.out (by assumption) | exact text_first HTL.out (by assumption))
                case measure => simp [intOf]; omega
            all_goals
              have HV := Lib.hid hv
              clear hv
              obtain ⟨V, hVe, hVd, hVs⟩ : ∃ V : ByteArray, (({ data := #[120] } : ByteArray) ++ bs t) ++ ({ data := #[120] } : ByteArray) = V ∧ V.data.toList = [120] ++ t ++ [120] ∧ V.size ≤ 11 := ⟨_, rfl, by simp, by simp [ByteArray.size_append]; show 1 + t.length + 1 ≤ 11; omega⟩
              have HVD := Lib.hid hVd
              clear hVd
              go_wp2_with fail
              clear hVe
              all_goals
                refine (line_any _ _ _ _ (by omega) (by omega)).mono ?_
                rintro e w' ⟨rfl, rfl⟩
                generalize hln : bs (lineB _ _ _) = ln
                have hls : ln.size ≤ 40 := by rw [← hln, size_bs]; exact Nat.le_trans (lineB_len _ _ _) (by show nm.size + V.size + 3 ≤ 40; omega)
                have HLN := Lib.hid hln
                clear hln
                go_wp2_with (at_mapUpdate; refine wpList_mapUpdate_own _ rfl _ _ _ 23 rfl 9 9 keyS Try.underlying23 (plainElem (H := Unit) Try.prog 9) w.heap.size k (putAll (.map []) (ts.map fun t => (t.1, t.2.1))) rfl (drewMap _ HMP.out) (by unfold maxLen; omega) _ _ (.string nm.data.toList) rfl rfl HKN.out _ _ (plainElem_string Try.underlying9 (by unfold maxLen; omega)) ?_; intro w2 hm2 hg2)
                have HM2 := Lib.hid hm2
                have HG2 := Lib.hid hg2
                clear hm2 hg2
                go_wp2
                go_roundw
                case rel => exact fa_step hlt hm10 HTL.out htx HOK.out HIX.out HND.out HBL.out HV.out (by have e : V.size = V.data.toList.length := rfl; rw [HVD.out] at e; omega) HVD.out HNM.out HM2.out HG2.out HBL.out.size (by rw [← HLN.out, HVD.out]; first | exact text_more HTL.out (by assumption) | exact text_first HTL.out (by assumption))
                case measure => simp [intOf]; omega
      · go_loopw [8, 51] (fun v i wx => ∃ (j : Nat) (t : List UInt8), j ≤ 1 + c ∧ i = .int .i64 j ∧ v = .string (bs t) ∧ t.length = j ∧ Hid (∀ x ∈ t, okc true x) ∧ wx = wr.drewN nq) (fun _ i _ => 1 + c - (intOf i).toNat)
        case atStart => exact ⟨0, [], by omega, rfl, rfl, rfl, Lib.hid (by simp), rfl⟩
        case round =>
          obtain ⟨j, t, hj, rfl, rfl, hjt, HOC, rfl⟩ := hrel
          have HJT := Lib.hid hjt
          clear hjt
          by_cases hj2 : j < 1 + c
          · have hE := enc_tab ({ data := #[97, 98, 32, 44, 61, 58, 47, 46, 48, 120, 45] } : ByteArray) (by decide)
            have hidx : 0 ≤ (n / 128 + (j : Int) * 5) % 11 ∧ (n / 128 + (j : Int) * 5) % 11 < 11 := by omega
            have hsz : t.length ≤ 9 := by rw [HJT.out]; omega
            go_wp2
            go_roundw
            case rel => exact ⟨j + 1, t ++ [_], by omega, by go_num, congrArg Value.string (ByteArray.mk_append_mk _ _), by rw [List.length_append, HJT.out]; rfl, Lib.hid (fun x hx => by rcases List.mem_append.1 hx with h | h; exact HOC.out x h; rw [List.mem_singleton.1 h]; exact tab_mem _ _ _), by first | rfl | trivial⟩
            case measure => simp [intOf]; omega
          · have htl9 : t.length ≤ 9 := by rw [HJT.out]; omega
            have htl1 : 0 < t.length := by rw [HJT.out]; omega
            have hj0 : (j : Int) = 1 + c := by omega
            have HJ0 := Lib.hid hj0
            clear hj0
            rcases val_ends true t htl1 HOC.out with ⟨hv, he0, he1⟩ | ⟨hv, he0⟩ | ⟨hv, he0, he1⟩
            · have HV := Lib.hid hv
              clear hv
              go_wp2_with fail
              all_goals
                have hVs : (bs t).size ≤ 11 := by rw [size_bs]; omega
                refine (line_any _ _ _ _ (by omega) (by omega)).mono ?_
                rintro e w' ⟨rfl, rfl⟩
                generalize hln : bs (lineB _ _ _) = ln
                have hls : ln.size ≤ 40 := by rw [← hln, size_bs]; exact Nat.le_trans (lineB_len _ _ _) (by show nm.size + t.length + 3 ≤ 40; omega)
                have HLN := Lib.hid hln
                clear hln
                go_wp2_with (at_mapUpdate; refine wpList_mapUpdate_own _ rfl _ _ _ 23 rfl 9 9 keyS Try.underlying23 (plainElem (H := Unit) Try.prog 9) w.heap.size k (putAll (.map []) (ts.map fun t => (t.1, t.2.1))) rfl (drewMap _ HMP.out) (by unfold maxLen; omega) _ _ (.string nm.data.toList) rfl rfl HKN.out _ _ (plainElem_string Try.underlying9 (by unfold maxLen; omega)) ?_; intro w2 hm2 hg2)
                have HM2 := Lib.hid hm2
                have HG2 := Lib.hid hg2
                clear hm2 hg2
                go_wp2
                go_roundw
                case rel => exact fa_step hlt hm10 HTL.out htx HOK.out HIX.out HND.out HBL.out HV.out (by omega) (data_bs t) HNM.out HM2.out HG2.out HBL.out.size (by rw [← HLN.out, data_bs]; first | exact text_more HTL.out (by assumption) | exact text_first HTL.out (by assumption))
                case measure => simp [intOf]; omega
            all_goals
              have HV := Lib.hid hv
              clear hv
              obtain ⟨V, hVe, hVd, hVs⟩ : ∃ V : ByteArray, (({ data := #[120] } : ByteArray) ++ bs t) ++ ({ data := #[120] } : ByteArray) = V ∧ V.data.toList = [120] ++ t ++ [120] ∧ V.size ≤ 11 := ⟨_, rfl, by simp, by simp [ByteArray.size_append]; show 1 + t.length + 1 ≤ 11; omega⟩
              have HVD := Lib.hid hVd
              clear hVd
              go_wp2_with fail
              clear hVe
              all_goals
                refine (line_any _ _ _ _ (by omega) (by omega)).mono ?_
                rintro e w' ⟨rfl, rfl⟩
                generalize hln : bs (lineB _ _ _) = ln
                have hls : ln.size ≤ 40 := by rw [← hln, size_bs]; exact Nat.le_trans (lineB_len _ _ _) (by show nm.size + V.size + 3 ≤ 40; omega)
                have HLN := Lib.hid hln
                clear hln
                go_wp2_with (at_mapUpdate; refine wpList_mapUpdate_own _ rfl _ _ _ 23 rfl 9 9 keyS Try.underlying23 (plainElem (H := Unit) Try.prog 9) w.heap.size k (putAll (.map []) (ts.map fun t => (t.1, t.2.1))) rfl (drewMap _ HMP.out) (by unfold maxLen; omega) _ _ (.string nm.data.toList) rfl rfl HKN.out _ _ (plainElem_string Try.underlying9 (by unfold maxLen; omega)) ?_; intro w2 hm2 hg2)
                have HM2 := Lib.hid hm2
                have HG2 := Lib.hid hg2
                clear hm2 hg2
                go_wp2
                go_roundw
                case rel => exact fa_step hlt hm10 HTL.out htx HOK.out HIX.out HND.out HBL.out HV.out (by have e : V.size = V.data.toList.length := rfl; rw [HVD.out] at e; omega) HVD.out HNM.out HM2.out HG2.out HBL.out.size (by rw [← HLN.out, HVD.out]; first | exact text_more HTL.out (by assumption) | exact text_first HTL.out (by assumption))
                case measure => simp [intOf]; omega
    · have hkm : k = m := by omega
      subst hkm
      obtain ⟨wo, rfl⟩ : ∃ wo : World, wo = wr := ⟨_, rfl⟩
      have hpt := params_txt ts HOK.out
      have hpn : ((params (bs (txt ts)).data.toList).map (·.1)).Nodup := by rw [data_bs, hpt, List.map_map]; exact HND.out
      have hpl : (params (bs (txt ts)).data.toList).length ≤ 12 := by rw [data_bs, hpt, List.length_map]; have := HTL.out; omega
      have HA1 := Lib.hid (attributes_any (bs (txt ts)) wo (by rw [size_bs]; omega) hpn hpl)
      have HA2 := Lib.hid fun w => attributes_any (bs [65, 61, 49]) w (by rw [size_bs]; decide) (by rw [data_bs, params_one]; decide) (by rw [data_bs, params_one]; decide)
      have HPT := Lib.hid hpt
      have HSZ : Hid (size (putAll (.map []) (ts.map fun t => (t.1, t.2.1))) = ts.length) := Lib.hid (by rw [size_putAll _ _ tidy_empty (by rw [List.map_map]; exact HND.out) (fun p _ => rfl), List.length_map]; simp [size])
      have hmlt := HMP.out.lt
      clear hpt hpn hpl
      go_wp2_with fail
      refine HA1.out.mono ?_
      rintro e w1 ⟨v, qs, rfl, hp, hs, ho, hb1⟩
      have hql : qs.length = ts.length := by rw [hp.length_eq]; show (params (txt ts)).length = _; rw [HPT.out, List.length_map]
      obtain ⟨ao, cap2, rfl, hmx⟩ := own_shape ho
      have HM1 := Lib.hid (mapRow_below HMP.out hb1 hmlt)
      have HP := Lib.hid hp
      have HS := Lib.hid hs
      have HO := Lib.hid ho
      have HB1 := Lib.hid hb1
      have HQL := Lib.hid hql
      have hsz1 := hb1.size
      have hmt : mapRow w1 w.heap.size k (ts.map fun t => (t.1, t.2.1)) := HM1.out
      have hlt1 := hmt.lt
      clear hp hs ho hb1 hmt
      have hbe : ((qs.length : Int) != (ts.length : Int)) = false := by rw [hql]; simp
      clear hql
      go_wp2_with (at_len; refine wpList_len_own _ rfl _ 23 rfl 9 9 Try.underlying23 (plainElem (H := Unit) Try.prog 9) w.heap.size k (putAll (.map []) (ts.map fun t => (t.1, t.2.1))) rfl HM1.out ?_; rw [HSZ.out])
      refine (HA2.out _).mono ?_
      rintro e w2 ⟨v2, q2, rfl, hp2, _, ho2, hb2⟩
      have hq2 : q2.length = 1 := by rw [hp2.length_eq]; show (params [65, 61, 49]).length = 1; rw [params_one]; rfl
      obtain ⟨ao2, cap3, rfl, _⟩ := own_shape ho2
      have HO2 := Lib.hid (own_below HO.out hb2 (fun g hg => (HO.out.lt g hg).2))
      have HM2 := Lib.hid (mapRow_below HM1.out hb2 hlt1)
      have HB2 := Lib.hid hb2
      have hb1' : ((q2.length : Int) != 1) = false := by rw [hq2]; rfl
      have hsz2 := hb2.size
      clear ho2 hb2 hp2 hq2
      have HST : Hid (FeRel w (.slice ao qs.length cap2) qs k (ts.map fun t => (t.1, t.2.1)) wo.heap.size (.int .i64 0) w2) := Lib.hid ⟨0, by omega, rfl, HO2.out, HM2.out, (HBL.out.trans (HB1.out.mono HBL.out.size)).trans (HB2.out.mono (by omega)), by omega⟩
      go_wp2
      go_loopw [122] (fun c wr => FeRel w (.slice ao qs.length cap2) qs k (ts.map fun t => (t.1, t.2.1)) wo.heap.size c wr) (fun c _ => qs.length - (intOf c).toNat)
      case atStart => exact HST.out
      case round =>
        obtain ⟨i, hi, rfl, ho, hm, hb, hsz⟩ := hrel
        have HOx := Lib.hid ho
        have HMx := Lib.hid hm
        have HBx := Lib.hid hb
        clear ho hm hb
        by_cases hli : i < qs.length
        · obtain ⟨g, rfl⟩ : ∃ g, ao = some ⟨g, 0, none⟩ := by
            rcases HOx.out.2 with ⟨_, h0⟩ | ⟨g, cap', cur, hv, _⟩
            · omega
            · simp only [Value.slice.injEq] at hv; exact ⟨g, hv.1⟩
          have hgl : g < wr.heap.size := (HOx.out.lt g rfl).2
          have hpc := pairsCells_at qs i hli
          have c0 : wr.cell? ⟨g, i * 2, none⟩ = some (.string (bs qs[i].1)) := by rw [HOx.out.cellAt _ (by omega), Nat.mul_comm]; exact hpc.1
          have c1 : wr.cell? ⟨g, i * 2 + 1, none⟩ = some (.string (bs qs[i].2)) := by rw [HOx.out.cellAt _ (by omega), Nat.mul_comm]; exact hpc.2
          have hmem : (qs[i].1, qs[i].2) ∈ ts.map fun t => (t.1, t.2.1) := by rw [← HPT.out]; exact HP.out.mem_iff.1 (List.getElem_mem hli)
          have hndp : ((ts.map fun t => (t.1, t.2.1)).map (·.1)).Nodup := by rw [List.map_map]; exact HND.out
          have hat := at_putAll _ _ isMap_empty hndp _ hmem (.lit (.string []))
          have hhas : has (putAll (.map []) (ts.map fun t => (t.1, t.2.1))) (.string qs[i].1) = true := by
            rw [has_putAll _ _ isMap_empty]
            have : (ts.map fun t => (t.1, t.2.1)).any (fun p => (Lit.string p.1).sameKey (.string qs[i].1)) = true := List.any_eq_true.2 ⟨_, hmem, by simp [Lit.sameKey]⟩
            rw [this]; simp
          have hal : qs[i].1.length ≤ maxLen := by
            have : qs[i].1.length ≤ (txt ts).length := txt_key _ hmem
            unfold maxLen; omega
          have HKA := Lib.hid (keyS_of _ hal)
          have HPV : Hid (∀ h : 0 < i, qs[i - 1].1 < qs[i].1) := Lib.hid fun h => List.pairwise_iff_getElem.1 HS.out (i - 1) i (by omega) hli (by omega)
          have HCP : Hid (∀ h : 0 < i, wr.cell? ⟨g, (i - 1) * 2, none⟩ = some (.string (bs qs[i - 1].1))) := Lib.hid fun h => by rw [HOx.out.cellAt _ (by omega), Nat.mul_comm]; exact (pairsCells_at qs (i - 1) (by omega)).1
          have HAT := Lib.hid hat
          have HHAS := Lib.hid hhas
          clear hpc hmem hndp hat hhas hal
          generalize qs[i].1 = a at *
          generalize qs[i].2 = d at *
          have hzero := Try.zeroValue9
          have HZR := Lib.hid hzero
          clear hzero
          have hneq : ((bs d).toList != (bs d).toList) = false := by simp
          by_cases hi0 : 0 < i
          · have cp := HCP.out hi0
            have hpv : Op.bytesLess qs[i - 1].1 a = true := by rw [bytesLess_eq]; simpa using HPV.out hi0
            have hd0 : decide ((0 : Int) < (i : Int)) = true := by simpa using hi0
            generalize qs[i - 1].1 = pv at *
            go_wp2_with (at_lookup; refine wpList_lookup_own_ok _ rfl _ _ 23 rfl 9 9 keyS Try.underlying23 (plainElem (H := Unit) Try.prog 9) (HZR.out _) (.lit (.string [])) [] (elemS [] (by decide)) w.heap.size k (putAll (.map []) (ts.map fun t => (t.1, t.2.1))) rfl (HMx.out.alloc _) _ (.string a) rfl HKA.out ?_; intro v3 ps3 hv3; rw [HAT.out] at hv3; obtain ⟨s3, rfl, hz3, _⟩ := plainElem_string_inv Try.underlying9 hv3; obtain rfl : s3 = bs d := bs_eq (by have e := congrArg Prod.fst hz3; simpa using e.symm); clear hz3 hv3; rw [HHAS.out])
            go_quiet (fail)
            go_wp2
            go_roundw
            case rel => exact ⟨i + 1, by omega, by go_num, HOx.out.alloc _, HMx.out.alloc _, blw (HBx.out.alloc (by omega) _) _, by simp; omega⟩
            case measure => simp [intOf]; omega
          · have hd0 : decide ((0 : Int) < (i : Int)) = false := by simpa using hi0
            go_wp2_with (at_lookup; refine wpList_lookup_own_ok _ rfl _ _ 23 rfl 9 9 keyS Try.underlying23 (plainElem (H := Unit) Try.prog 9) (HZR.out _) (.lit (.string [])) [] (elemS [] (by decide)) w.heap.size k (putAll (.map []) (ts.map fun t => (t.1, t.2.1))) rfl (HMx.out.alloc _) _ (.string a) rfl HKA.out ?_; intro v3 ps3 hv3; rw [HAT.out] at hv3; obtain ⟨s3, rfl, hz3, _⟩ := plainElem_string_inv Try.underlying9 hv3; obtain rfl : s3 = bs d := bs_eq (by have e := congrArg Prod.fst hz3; simpa using e.symm); clear hz3 hv3; rw [HHAS.out])
            go_quiet (fail)
            go_wp2
            go_roundw
            case rel => exact ⟨i + 1, by omega, by go_num, HOx.out.alloc _, HMx.out.alloc _, blw (HBx.out.alloc (by omega) _) _, by simp; omega⟩
            case measure => simp [intOf]; omega
        · go_wp2
          go_ret
          exact ⟨rfl, HBx.out⟩
end Go.Proofs.Ytlphcidpaidclaa
