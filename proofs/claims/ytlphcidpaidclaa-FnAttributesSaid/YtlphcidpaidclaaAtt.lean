/-
  The contract of impl.Attributes: the pairs of a list of attributes, of different names, ascending by their names.
-/
import Derived.Test.YtlphcidpaidclaaPar
import Derived.Maps.RangeWalk
namespace Go.Proofs.Ytlphcidpaidclaa
open Go.RowKit Go.Maps Go.WideShapes

set_option maxHeartbeats 400000 in
theorem attrs_any (s : ByteArray) (w : World) (hs : s.size ≤ 1000000) :
    Calls Try.prog 7 #[.string s] w fun e w' => e = .returned (.map (some w.heap.size)) ∧ mapRow w' w.heap.size (params s.data.toList).length (params s.data.toList) ∧ Below w.heap.size w w' := by
  go_enter Try.func7, Try.ntmps7
  go_wp2_with fail
  refine (par_any _ _ hs).mono ?_
  rintro e w1 ⟨rfl, h1, h2⟩
  go_wp2
  go_ret
  exact ⟨rfl, h1, h2⟩

/-! ### lists without doubles -/
theorem length_le_of_nodup {α : Type} [DecidableEq α] : ∀ (l m : List α), l.Nodup → (∀ x ∈ l, x ∈ m) → l.length ≤ m.length
  | [], _, _, _ => by simp
  | a :: r, m, h, hm => by
    obtain ⟨h1, h2⟩ := List.nodup_cons.1 h
    have ha : a ∈ m := hm a (by simp)
    have := length_le_of_nodup r (m.erase a) h2 (fun x hx => (List.mem_erase_of_ne (fun e => h1 (by rw [← e]; exact hx))).2 (hm x (by simp [hx])))
    rw [List.length_erase_of_mem ha] at this
    have hp := List.length_pos_of_mem ha
    simp; omega
theorem perm_of_nodup {α : Type} [DecidableEq α] : ∀ (l m : List α), l.Nodup → m.Nodup → (∀ x, x ∈ l ↔ x ∈ m) → l.Perm m
  | [], m, _, _, h => by
    have : m = [] := List.eq_nil_iff_forall_not_mem.2 fun x hx => by simpa using (h x).2 hx
    subst this; exact List.Perm.refl _
  | a :: r, m, hl, hm, h => by
    obtain ⟨h1, h2⟩ := List.nodup_cons.1 hl
    have ha : a ∈ m := (h a).1 (by simp)
    refine List.cons_perm_iff_perm_erase.2 ⟨ha, perm_of_nodup r (m.erase a) h2 (hm.erase a) fun x => ?_⟩
    rw [List.Nodup.mem_erase_iff hm]
    constructor
    · intro hx; exact ⟨fun e => h1 (by rw [← e]; exact hx), (h x).1 (by simp [hx])⟩
    · rintro ⟨hne, hx⟩
      rcases List.mem_cons.1 ((h x).2 hx) with e | e
      · exact absurd e hne
      · exact e
theorem nodup_of_map {α β : Type} (f : α → β) : ∀ (l : List α), (l.map f).Nodup → l.Nodup
  | [], _ => List.nodup_nil
  | a :: r, h => by
    rw [List.map_cons, List.nodup_cons] at h
    exact List.nodup_cons.2 ⟨fun ha => h.1 (List.mem_map_of_mem ha), nodup_of_map f r h.2⟩
theorem eq_of_key {α β : Type} (f : α → β) : ∀ (l : List α), (l.map f).Nodup → ∀ x ∈ l, ∀ y ∈ l, f x = f y → x = y
  | [], _, x, hx, _, _, _ => by simp at hx
  | a :: r, h, x, hx, y, hy, e => by
    rw [List.map_cons, List.nodup_cons] at h
    rcases List.mem_cons.1 hx with rfl | hx' <;> rcases List.mem_cons.1 hy with rfl | hy'
    · rfl
    · exact absurd (by rw [e]; exact List.mem_map_of_mem hy') h.1
    · exact absurd (by rw [← e]; exact List.mem_map_of_mem hx') h.1
    · exact eq_of_key f r h.2 x hx' y hy' e

/-! ### what a map of pairs is -/
abbrev Pairs := List (List UInt8 × List UInt8)
theorem isKey (l : List UInt8) : WideAt.IsKeyLit (.string l) := by simp [WideAt.IsKeyLit]
theorem putAll_tidy : ∀ (ps : Pairs) (D : DataW Unit), Tidy D → Tidy (putAll D ps)
  | [], _, h => h
  | _ :: r, _, h => putAll_tidy r _ (h.put (isKey _) _)
theorem has_putAll : ∀ (ps : Pairs) (D : DataW Unit), IsMap D → ∀ kl, has (putAll D ps) kl = (has D kl || ps.any fun p => (Lit.string p.1).sameKey kl)
  | [], D, _, kl => by simp [putAll]
  | p :: r, D, h, kl => by
    show has (putAll (D.put _ _) r) kl = _
    rw [has_putAll r _ (h.put _ _) kl, List.any_cons]
    by_cases e : kl = .string p.1
    · subst e; rw [has_put_same h (isKey _)]; simp [Lit.sameKey]
    · rw [has_put_other e, sameKey_ne (Ne.symm e)]; simp
theorem at_putAll_other : ∀ (ps : Pairs) (D : DataW Unit) (k : List UInt8) (z : DataW Unit), k ∉ ps.map (·.1) → (putAll D ps).atKey (.string k) z = D.atKey (.string k) z
  | [], _, _, _, _ => rfl
  | p :: r, D, k, z, h => by
    rw [List.map_cons, List.mem_cons, not_or] at h
    show (putAll (D.put _ _) r).atKey _ z = _
    rw [at_putAll_other r _ k z h.2, atKey_put_other (by simpa using h.1)]
theorem at_putAll : ∀ (ps : Pairs) (D : DataW Unit), IsMap D → (ps.map (·.1)).Nodup → ∀ p ∈ ps, ∀ z, (putAll D ps).atKey (.string p.1) z = .lit (.string p.2)
  | [], _, _, _, p, hp, _ => by simp at hp
  | q :: r, D, hD, h, p, hp, z => by
    rw [List.map_cons, List.nodup_cons] at h
    rcases List.mem_cons.1 hp with rfl | hp'
    · show (putAll (D.put _ _) r).atKey _ z = _
      rw [at_putAll_other r _ _ z h.1, atKey_put_same hD (isKey _)]
    · exact at_putAll r _ (hD.put _ _) h.2 p hp' z
theorem size_putAll : ∀ (ps : Pairs) (D : DataW Unit), Tidy D → (ps.map (·.1)).Nodup → (∀ p ∈ ps, has D (.string p.1) = false) → size (putAll D ps) = size D + ps.length
  | [], _, _, _, _ => by simp [putAll]
  | p :: r, D, hD, h, hn => by
    rw [List.map_cons, List.nodup_cons] at h
    show size (putAll (D.put _ _) r) = _
    rw [size_putAll r _ (hD.put (isKey _) _) h.2, size_put hD, hn p (by simp)]
    · simp; omega
    · intro q hq
      rw [has_put_other]
      · exact hn q (by simp [hq])
      · intro e; simp only [Lit.string.injEq] at e
        exact h.1 (by rw [← e]; exact List.mem_map_of_mem hq)

theorem mk_string {P : Program} {k : TypeId} (hk : P.underlying k = some .string) (key : Value) (kl : Lit) (h : keyOf P k key = some kl) : ∃ s : ByteArray, key = .string s ∧ kl = .string s.data.toList ∧ s.size ≤ maxLen :=
  WideMaps.string_of_keyOf hk h

/-- the step of a range over a map of strings by strings -/
theorem wpList_next_ss {P : Program} (w : World) {ops : Array Oper} {rest : List Oper} {o : Oper} {a : Act} {Q : Exit → Act → World → Prop}
    (hg : o.guard = none) (it : Operand) (hop : o.op = Op.next it false) (k : TypeId) (K : Keyed P k) (hk : P.underlying k = some .string)
    (b r n : Nat) (D : DataW Unit) (left : Lit → Bool) (cnt : Nat) (hit : a.eval it = .pointer (some ⟨r, 0, none⟩)) (h : w.ranges P k (plainElem P k) b r n D left cnt)
    (hDone : cnt = 0 → (∀ kl, left kl = false) → wpList P ops Q rest (a.put o.dst (.tuple #[.bool false])) w)
    (hMore : ∀ (x c : ByteArray) (w' : World) (cnt' : Nat), left (.string x.data.toList) = true → (∀ zd, D.atKey (.string x.data.toList) zd = .lit (.string c.data.toList)) → w'.ranges P k (plainElem P k) b r n D (fun z => left z && !z.sameKey (.string x.data.toList)) cnt' → cnt' < cnt →
      w.grownBy w' (some r) → w'.heap.size = w.heap.size → (Instr.entry (.pointer (some ⟨r, 0, none⟩))).run P w' = .ok (.tuple #[.string x, .string c]) w' → wpList P ops Q rest (a.put o.dst (.tuple #[.bool true, .string x, .string c])) w') :
    wpList P ops Q (o :: rest) a w :=
  wpList_next_ranges w hg it hop k K (plainElem P k) Value.string Value.string (fun key kl hkey => by obtain ⟨x, rfl, _⟩ := mk_string hk key kl hkey; exact ⟨x, rfl⟩) (fun v y hv => by obtain ⟨c, rfl, _⟩ := plainElem_string_inv hk hv; exact ⟨c, rfl⟩)
    b r n D left cnt hit h hDone (fun x c kl y w' cnt' hkey hlk hv hat hrg hlt hgr hsz hen => by
      obtain ⟨x', ex, rfl, _⟩ := mk_string hk _ _ hkey
      cases ex
      obtain ⟨c', ec, rfl, _⟩ := plainElem_string_inv hk hv
      cases ec
      exact hMore x c w' cnt' hlk hat hrg hlt hgr hsz hen)

/-- what holds at the head of a round of the loop that collects the pairs -/
def ArRel (B : Nat) (w : World) (b r n : Nat) (ps : Pairs) (v : Value) (wr : World) : Prop :=
  ∃ (cs : Pairs) (left : Lit → Bool) (cnt : Nat), wr.ranges Try.prog 9 (plainElem Try.prog 9) b r n (putAll (.map []) ps) left cnt ∧ wr.ownsRow (r + 1) 31 2 v cs.length (pairsCells cs) ∧ Below B w wr ∧
    (∀ kl, left kl = (has (putAll (.map []) ps) kl && !cs.any fun p => (Lit.string p.1).sameKey kl)) ∧ (cs.map (·.1)).Nodup ∧ (∀ p ∈ cs, p ∈ ps)

theorem ar_start {B b r n : Nat} {w w0 : World} {ps : Pairs} (h : w0.ranges Try.prog 9 (plainElem Try.prog 9) b r n (putAll (.map []) ps) (has (putAll (.map []) ps)) (size (putAll (.map []) ps))) (hb : Below B w w0) :
    ArRel B w b r n ps (.slice none 0 0) w0 :=
  ⟨[], _, _, h, World.ownsRow_nil _ _ _ _, hb, fun kl => by simp, List.nodup_nil, fun p hp => by simp at hp⟩

/-- what is collected when nothing is left -/
theorem ar_done {ps cs : Pairs} {left : Lit → Bool} (hnd : (ps.map (·.1)).Nodup) (hl : ∀ kl, left kl = false) (hleft : ∀ kl, left kl = (has (putAll (.map []) ps) kl && !cs.any fun p => (Lit.string p.1).sameKey kl))
    (hc : (cs.map (·.1)).Nodup) (hin : ∀ p ∈ cs, p ∈ ps) : cs.Perm ps := by
  refine perm_of_nodup cs ps (nodup_of_map _ _ hc) (nodup_of_map _ _ hnd) fun x => ⟨hin x, fun hx => ?_⟩
  have h1 := hleft (.string x.1)
  rw [hl, has_putAll _ _ isMap_empty] at h1
  have h2 : (ps.any fun p => (Lit.string p.1).sameKey (.string x.1)) = true := List.any_eq_true.2 ⟨x, hx, by simp [Lit.sameKey]⟩
  rw [h2] at h1
  have h3 : (cs.any fun p => (Lit.string p.1).sameKey (.string x.1)) = true := by
    cases h : cs.any fun p => (Lit.string p.1).sameKey (.string x.1)
    · rw [h] at h1; simp at h1
    · rfl
  obtain ⟨y, hy, hk⟩ := List.any_eq_true.1 h3
  have hk : y.1 = x.1 := by simpa [Lit.sameKey] using hk
  rw [← eq_of_key (·.1) ps hnd y (hin y hy) x hx hk]
  exact hy

/-- a pair that comes is one of those that are to come -/
theorem ar_come {ps cs : Pairs} {left : Lit → Bool} {k c : List UInt8} (hnd : (ps.map (·.1)).Nodup) (hleft : ∀ kl, left kl = (has (putAll (.map []) ps) kl && !cs.any fun p => (Lit.string p.1).sameKey kl))
    (h : left (.string k) = true) (hat : ∀ zd, (putAll (.map []) ps).atKey (.string k) zd = .lit (.string c)) : (k, c) ∈ ps ∧ k ∉ cs.map (·.1) := by
  rw [hleft, has_putAll _ _ isMap_empty, Bool.and_eq_true] at h
  obtain ⟨h1, h2⟩ := h
  constructor
  · have h1 : (ps.any fun p => (Lit.string p.1).sameKey (.string k)) = true := by simpa [has] using h1
    obtain ⟨y, hy, hk⟩ := List.any_eq_true.1 h1
    have hk : y.1 = k := by simpa [Lit.sameKey] using hk
    have := at_putAll ps _ isMap_empty hnd y hy .nil
    rw [hk, hat] at this
    have hc : c = y.2 := by simpa using this
    rw [← hk, hc]; exact hy
  · intro hm
    obtain ⟨y, hy, hk⟩ := List.mem_map.1 hm
    have : (cs.any fun p => (Lit.string p.1).sameKey (.string k)) = true := List.any_eq_true.2 ⟨y, hy, by simp [Lit.sameKey, hk]⟩
    rw [this] at h2; cases h2

theorem ar_left {D : DataW Unit} {cs : Pairs} {left : Lit → Bool} {k c : List UInt8} (hleft : ∀ kl, left kl = (has D kl && !cs.any fun p => (Lit.string p.1).sameKey kl)) (kl : Lit) :
    (left kl && !kl.sameKey (.string k)) = (has D kl && !(cs ++ [(k, c)]).any fun p => (Lit.string p.1).sameKey kl) := by
  have e : kl.sameKey (.string k) = (Lit.string k).sameKey kl := by
    cases kl <;> simp [Lit.sameKey]
    exact Bool.eq_iff_iff.2 (by simp; exact eq_comm)
  rw [hleft, List.any_append, e]
  simp only [List.any_cons, List.any_nil, Bool.or_false, Bool.not_or, Bool.and_assoc]

end Go.Proofs.Ytlphcidpaidclaa
