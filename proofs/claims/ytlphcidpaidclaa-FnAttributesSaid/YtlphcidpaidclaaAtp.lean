/-
  Plain: a list of attributes that is written line by line, with commas between, is found again by reKeyValue, pair by pair.
-/
import Derived.Test.YtlphcidpaidclaaAts
namespace Go.Proofs.Ytlphcidpaidclaa
open Go.RowKit

theorem tw_app {p : UInt8 → Bool} {a b : List UInt8} (ha : ∀ c ∈ a, p c = true) (hb : ∀ c, b.head? = some c → p c = false) : tw p (a ++ b) = a.length := by
  unfold tw
  induction a with
  | nil =>
    cases b with
    | nil => rfl
    | cons c t => simp [hb c rfl]
  | cons x t ih => simp [ha x (by simp), ih fun c hc => ha c (by simp [hc])]

def okName (a : List UInt8) : Prop := a ≠ [] ∧ ∀ c ∈ a, nbB c = true
def okVal (q : Bool) (v : List UInt8) : Prop :=
  v ≠ [] ∧ (∀ c ∈ v, c ≠ 34) ∧ (q = false → ∀ c ∈ v, c ≠ 44) ∧ v.head? ≠ some 32 ∧ v.getLast? ≠ some 32
def rawV (v : List UInt8) (q : Bool) : List UInt8 := if q then [34] ++ v ++ [34] else v
theorem lineB_eq (a v : List UInt8) (q : Bool) : lineB a v q = a ++ 61 :: rawV v q := by cases q <;> simp [lineB, rawV]

theorem valLen_raw {v rest : List UInt8} {q : Bool} (hv : okVal q v) (hr : rest = [] ∨ rest.head? = some 44) : valLen (rawV v q ++ rest) = (rawV v q).length ∧ (rawV v q).length ≠ 0 := by
  obtain ⟨h0, h1, h2, h3, h4⟩ := hv
  have hp : 0 < v.length := List.length_pos_iff.2 h0
  cases q with
  | true =>
    have e : tw pQ (v ++ 34 :: rest) = v.length := tw_app (fun c hc => by simp [pQ, h1 c hc]) (fun c hc => by simp at hc; subst hc; rfl)
    refine ⟨?_, by simp [rawV]⟩
    unfold valLen
    rw [if_pos (by simp [rawV])]
    simp only [rawV, if_true, List.cons_append, List.nil_append, List.drop_succ_cons, List.drop_zero, List.append_assoc, e]
    rw [if_pos (by simp; omega)]
    simp
  | false =>
    have e : tw pU (v ++ rest) = v.length := by
      refine tw_app (fun c hc => by simp [pU, h1 c hc, h2 rfl c hc]) (fun c hc => ?_)
      rcases hr with rfl | hr
      · simp at hc
      · rw [hr] at hc; simp at hc; subst hc; rfl
    refine ⟨?_, by simp [rawV]; omega⟩
    unfold valLen
    rw [if_neg, rawV]
    · simpa using e
    · obtain ⟨x, t, rfl⟩ := List.exists_cons_of_ne_nil h0
      simp only [rawV, List.cons_append]
      simpa using h1 x (by simp)

theorem kv_line {a v rest : List UInt8} {q : Bool} (ha : okName a) (hv : okVal q v) (hr : rest = [] ∨ rest.head? = some 44) :
    kv (lineB a v q ++ rest) = (a, rawV v q) :: kv rest := by
  obtain ⟨h1, h2⟩ := valLen_raw hv hr
  have hp : 0 < a.length := List.length_pos_iff.2 ha.1
  have et : tw nbB (lineB a v q ++ rest) = a.length := by
    rw [lineB_eq, List.append_assoc]
    exact tw_app ha.2 (fun c hc => by simp at hc; subst hc; rfl)
  have ed : (lineB a v q ++ rest).drop (a.length + 1) = rawV v q ++ rest := by
    rw [lineB_eq, List.append_assoc, ← List.drop_drop, List.drop_left]; rfl
  have es : kvStep (lineB a v q ++ rest) = (some (a, rawV v q), a.length + 1 + (rawV v q).length) := by
    unfold kvStep
    rw [et, ed, if_neg, if_neg (by omega), h1]
    · rw [lineB_eq, List.append_assoc, List.take_left, List.take_left]
    · rintro (h | h | h)
      · omega
      · rw [lineB_eq] at h; simp at h; omega
      · apply h
        rw [lineB_eq, List.append_assoc, List.getElem?_append_right (Nat.le_refl _)]; simp
  rw [kv_step (by rw [lineB_eq]; simp), es]
  simp only [Option.toList_some, List.singleton_append]
  rw [← List.drop_drop, ed, List.drop_left]
theorem kv_comma (t : List UInt8) : kv (44 :: t) = kv t := by
  rw [kv_step (by simp)]
  have e : kvStep (44 :: t) = (none, 1) := by
    have : tw nbB (44 :: t) = 0 := by simp [tw, nbB, nbI]
    unfold kvStep
    rw [this, if_pos (.inl rfl)]; rfl
  rw [e]; rfl

theorem dropW_keep {v : List UInt8} (h : ∀ c, v.head? = some c → pT c = false) : v.dropWhile pT = v := by
  cases v with
  | nil => rfl
  | cons c t => simp [h c rfl]
theorem trimR_of {v : List UInt8} (h : ∀ c, v.getLast? = some c → pT c = false) : trimR v = v := by
  unfold trimR
  rw [dropW_keep (by simpa using h), List.reverse_reverse]
theorem trim_raw {v : List UInt8} {q : Bool} (hv : okVal q v) : trimQ (rawV v q) = v := by
  obtain ⟨h0, h1, h2, h3, h4⟩ := hv
  have hh : ∀ c, v.head? = some c → pT c = false := fun c hc => by
    have := h1 c (List.mem_of_head? hc)
    have h5 : c ≠ 32 := fun e => h3 (by rw [hc, e])
    simp [pT, this, h5]
  have hl : ∀ c, v.getLast? = some c → pT c = false := fun c hc => by
    have := h1 c (List.mem_of_getLast? hc)
    have h5 : c ≠ 32 := fun e => h4 (by rw [hc, e])
    simp [pT, this, h5]
  unfold trimQ
  cases q with
  | false => simp only [rawV]; rw [if_neg (by simp), dropW_keep hh, trimR_of hl]
  | true =>
    have e : (rawV v true).dropWhile pT = v ++ [34] := by
      simp only [rawV, if_true, List.cons_append, List.nil_append, List.dropWhile_cons]
      rw [if_pos (by rfl)]
      refine dropW_keep fun c hc => ?_
      obtain ⟨x, t, rfl⟩ := List.exists_cons_of_ne_nil h0
      exact hh c (by simpa using hc)
    rw [e, trimR_last rfl, trimR_of hl]

abbrev Attr := List UInt8 × List UInt8 × Bool
def okAttr (t : Attr) : Prop := okName t.1 ∧ okVal t.2.2 t.2.1
def txt : List Attr → List UInt8
  | [] => []
  | t :: ts => lineB t.1 t.2.1 t.2.2 ++ if ts = [] then [] else 44 :: txt ts
theorem txt_snoc (t : Attr) : ∀ ts : List Attr, txt (ts ++ [t]) = txt ts ++ ((if ts = [] then [] else [44]) ++ lineB t.1 t.2.1 t.2.2)
  | [] => by simp [txt]
  | x :: r => by
    have := txt_snoc t r
    simp only [List.cons_append, txt, List.append_eq_nil_iff, reduceCtorEq, and_false, if_false, this]
    by_cases h : r = []
    · subst h; simp [txt]
    · simp [h]
theorem kv_txt : ∀ ts : List Attr, (∀ t ∈ ts, okAttr t) → kv (txt ts) = ts.map fun t => (t.1, rawV t.2.1 t.2.2)
  | [], _ => kv_nil
  | t :: ts, h => by
    obtain ⟨h1, h2⟩ := h t (by simp)
    simp only [txt, List.map_cons]
    by_cases e : ts = []
    · subst e; rw [if_pos rfl, kv_line h1 h2 (.inl rfl), kv_nil]; rfl
    · rw [if_neg e, kv_line h1 h2 (.inr rfl), kv_comma, kv_txt ts fun x hx => h x (by simp [hx])]
theorem params_txt (ts : List Attr) (h : ∀ t ∈ ts, okAttr t) : params (txt ts) = ts.map fun t => (t.1, t.2.1) := by
  unfold params
  rw [kv_txt ts h, List.map_map]
  refine List.map_congr_left fun t ht => ?_
  simp only [Function.comp]
  rw [trim_raw (h t ht).2]
theorem params_one : params [65, 61, 49] = [([65], [49])] := by
  have h := params_txt [([65], [49], false)] (by
    intro t ht
    simp only [List.mem_singleton] at ht
    subst ht
    exact ⟨⟨by simp, by simp [nbB, nbI]⟩, by simp, by simp, by simp, by simp, by simp⟩)
  exact h
end Go.Proofs.Ytlphcidpaidclaa
