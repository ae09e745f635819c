/-
  The cache of durations: a map of texts under float64 keys.
-/
import Derived.Test.YtlphcidpaidclaaGreatDoorFmp
import Derived.Test.YtlphcidpaidclaaGreatDoorFlv
import Derived.Test.YtlphcidpaidclaaGreatDoorStc
namespace Go.Proofs.YtlphcidpaidclaaGreatDoor
open Go.RowKit

/-- the entries of the durations cs, born from i on -/
def ents (T : Nat → List UInt8) : List Nat → Nat → List MapEntry
  | [], _ => []
  | e :: cs, i => { key := .float .f64 (fb e), val := .string (bs (T e)), born := i } :: ents T cs (i + 1)
theorem ents_snoc (T : Nat → List UInt8) (e : Nat) : ∀ (cs : List Nat) (i : Nat), ents T (cs ++ [e]) i = ents T cs i ++ [{ key := .float .f64 (fb e), val := .string (bs (T e)), born := i + cs.length }]
  | [], i => rfl
  | c :: cs, i => by
    simp only [List.cons_append, ents, ents_snoc T e cs (i + 1), List.length_cons]
    rw [show i + 1 + cs.length = i + (cs.length + 1) by omega]
def cacheObj (T : Nat → List UInt8) (cs : List Nat) : Obj := .map (ents T cs 0).toArray cs.length

theorem fk_run (T : Nat → List UInt8) (e : Nat) (he : e < 4000) (w : World) : ∀ (cs : List Nat) (i k : Nat), (∀ x ∈ cs, x < 4000) →
    (e ∉ cs → (Instr.findAsking 24 (.float .f64 (fb e)) (ents T cs i) k).run Tryz.prog w = .ok none w) ∧
    (e ∈ cs → ∃ j, (Instr.findAsking 24 (.float .f64 (fb e)) (ents T cs i) k).run Tryz.prog w = .ok (some (j, .string (bs (T e)))) w)
  | [], i, k, _ => ⟨fun _ => rfl, fun h => by cases h⟩
  | c :: cs, i, k, hc => by
    have ih := fk_run T e he w cs (i + 1) (k + 1) (fun x hx => hc x (List.mem_cons_of_mem _ hx))
    have hord := flo_ord he (hc c List.mem_cons_self)
    unfold ents Instr.findAsking
    simp only [Sem.run_bind, eq_float, hord, Result.andThen_ok]
    by_cases h : e = c
    · subst h
      have hh : (some (compare e e) == some Ordering.eq) = true := by simp
      simp only [hh, if_true, Sem.run_pure]
      exact ⟨fun hn => absurd List.mem_cons_self hn, fun _ => ⟨k, rfl⟩⟩
    · have hcmp : (some (compare e c) == some Ordering.eq) = false := by
        have : compare e c ≠ .eq := fun hh => h (Nat.compare_eq_eq.1 hh)
        simpa using this
      simp only [hcmp, Bool.false_eq_true, if_false]
      exact ⟨fun hn => ih.1 (fun hm => hn (List.mem_cons_of_mem _ hm)), fun hm => ih.2 ((List.mem_cons.1 hm).resolve_left h)⟩
theorem findKey_run (T : Nat → List UInt8) (e : Nat) (he : e < 4000) (w : World) (cs : List Nat) (hc : ∀ x ∈ cs, x < 4000) :
    (e ∉ cs → (Instr.findKey 24 (.float .f64 (fb e)) (ents T cs 0)).run Tryz.prog w = .ok none w) ∧
    (e ∈ cs → ∃ j, (Instr.findKey 24 (.float .f64 (fb e)) (ents T cs 0)).run Tryz.prog w = .ok (some (j, .string (bs (T e)))) w) := by
  have e1 : (underlying 24).run Tryz.prog w = .ok (.float .f64) w := by kernel_rfl
  cases cs with
  | nil => exact ⟨fun _ => fk_none _ _, fun h => by cases h⟩
  | cons c cs =>
    have e2 : Instr.findNow (.float .f64) (.float .f64 (fb e)) (ents T (c :: cs) 0) 0 = none := rfl
    have h := fk_run T e he w (c :: cs) 0 0 hc
    unfold Instr.findKey
    simp only [Sem.run_bind, e1, Result.andThen_ok, e2]
    exact h
theorem look_no (T : Nat → List UInt8) (e r : Nat) (he : e < 4000) (w : World) (cs : List Nat) (hc : ∀ x ∈ cs, x < 4000) (h : w.heap[r]? = some (cacheObj T cs)) (hn : e ∉ cs) :
    (Instr.lookup 123 (.map (some r)) (.float .f64 (fb e)) true).run Tryz.prog w = .ok (.tuple #[.string { data := #[] }, .bool false]) w := by
  unfold Instr.lookup
  simp only [Sem.run_bind, und_map, Result.andThen_ok, run_getObj_map w r _ _ h, ck_float, List.toList_toArray, (findKey_run T e he w cs hc).1 hn, zeroStr, Sem.run_pure, if_true]
theorem look_yes (T : Nat → List UInt8) (e r : Nat) (he : e < 4000) (w : World) (cs : List Nat) (hc : ∀ x ∈ cs, x < 4000) (h : w.heap[r]? = some (cacheObj T cs)) (hn : e ∈ cs) :
    (Instr.lookup 123 (.map (some r)) (.float .f64 (fb e)) true).run Tryz.prog w = .ok (.tuple #[.string (bs (T e)), .bool true]) w ∧
    (Instr.lookup 123 (.map (some r)) (.float .f64 (fb e)) false).run Tryz.prog w = .ok (.string (bs (T e))) w := by
  obtain ⟨j, hj⟩ := (findKey_run T e he w cs hc).2 hn
  unfold Instr.lookup
  simp only [Sem.run_bind, und_map, Result.andThen_ok, run_getObj_map w r _ _ h, ck_float, List.toList_toArray, hj, Sem.run_pure, if_true, if_false, Bool.false_eq_true, and_self]
theorem cache_put (T : Nat → List UInt8) (e r : Nat) (he : e < 4000) (w : World) (cs : List Nat) (hc : ∀ x ∈ cs, x < 4000) (h : w.heap[r]? = some (cacheObj T cs)) (hn : e ∉ cs) :
    (Instr.mapUpdate 123 (.map (some r)) (.float .f64 (fb e)) (.string (bs (T e)))).run Tryz.prog w = .ok () (putB w r (cacheObj T (cs ++ [e]))) := by
  have ho : cacheObj T (cs ++ [e]) = .map ((ents T cs 0).toArray.push { key := .float .f64 (fb e), val := .string (bs (T e)), born := cs.length }) (cs.length + 1) := by
    unfold cacheObj
    rw [ents_snoc, List.length_append, Nat.zero_add, List.push_toArray]
    rfl
  rw [ho]
  unfold Instr.mapUpdate
  simp only [Sem.run_bind, und_map, Result.andThen_ok, run_getObj_map w r _ _ h, ck_float, List.toList_toArray, (findKey_run T e he w cs hc).1 hn]
  exact MapKept.run_setObj_map _ h
end Go.Proofs.YtlphcidpaidclaaGreatDoor
