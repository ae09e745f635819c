/-
  The plain law: what Encode writes is what the specification writes. No program in sight.
-/
import Derived.Test.YtlphcidpaidclaaGreatDoorEnl
import Derived.Test.YtlphcidpaidclaaGreatDoorWmp
import Derived.WalkKit
import Derived.Deep.QuietTactic
import Derived.BigQuiet
namespace Go.Proofs.YtlphcidpaidclaaGreatDoor

theorem app_tb_6 (k : KeyD) (l : List UInt8) : tb_6 k l = l ++ tb_6 k [] := by
  simp only [tb_6, tx_10, tx_21, tx_17, tx_14]
  repeat' split
  all_goals simp
theorem tb_112_eq (k : KeyD) (l : List UInt8) : tb_112 k l = tb_6 k l := rfl
theorem app_tb_26 (m : MapD) (l : List UInt8) : tb_26 m l = l ++ tb_26 m [] := by
  simp only [tb_26, tx_31]
  repeat' split
  all_goals simp
theorem tb_134_eq (m : MapD) (l : List UInt8) : tb_134 m l = tb_26 m l := rfl
theorem app_opt {α : Type} {f : α → List UInt8 → List UInt8} (hf : ∀ x l, f x l = l ++ f x []) (o : Option α) (l : List UInt8) : optT f o l = l ++ optT f o [] := by
  cases o with
  | none => simp [optT]
  | some x => exact hf x l
theorem app_if {q : Prop} [Decidable q] {x : List UInt8} (l : List UInt8) : (if q then l ++ x else l) = l ++ (if q then [] ++ x else []) := by split <;> simp
theorem app_tx_61 (d : PlD) (l : List UInt8) : tx_61 d l = l ++ tx_61 d [] := by unfold tx_61; split <;> simp
theorem app_tx_57 (d : PlD) (l : List UInt8) : tx_57 d l = l ++ tx_57 d [] := by unfold tx_57; split <;> simp
theorem app_tx_54 (d : PlD) (l : List UInt8) : tx_54 d l = l ++ tx_54 d [] := by unfold tx_54; split <;> simp
theorem app_tx_51 (d : PlD) (l : List UInt8) : tx_51 d l = l ++ tx_51 d [] := by unfold tx_51 tx_54; repeat' split
                                                                                 all_goals simp
theorem app_tx_37 (d : PlD) (l : List UInt8) : tx_37 d l = l ++ tx_37 d [] := by unfold tx_37; split <;> simp
theorem app_tx_132 (s : SegD) (l : List UInt8) : tx_132 s l = l ++ tx_132 s [] := by unfold tx_132; split <;> simp
theorem app_tx_145 (s : SegD) (l : List UInt8) : tx_145 s l = l ++ tx_145 s [] := by unfold tx_145; split <;> simp
theorem app_tx_149 (s : SegD) (l : List UInt8) : tx_149 s l = l ++ tx_149 s [] := by unfold tx_149; split <;> simp
theorem app_tx_171 (d : PlD) (l : List UInt8) : tx_171 d l = l ++ tx_171 d [] := by unfold tx_171; split <;> simp
theorem app_segMap (d : PlD) (s : SegD) (l : List UInt8) : segMapT d s l = l ++ segMapT d s [] := by
  unfold segMapT; split
  · exact app_opt app_tb_26 _ _
  · simp

/-- what Head gives, its lines one behind the other -/
def headX (ty seq td st dsq : Nat) (pre ifr : Bool) (key : Option KeyD) (map : Option MapD) : List UInt8 :=
  optT tb_6 key [] ++ optT tb_26 map [] ++ (if ty = 2 then [35, 69, 88, 84, 45, 88, 45, 80, 76, 65, 89, 76, 73, 83, 84, 45, 84, 89, 80, 69, 58, 86, 79, 68, 10] else []) ++
  (([35, 69, 88, 84, 45, 88, 45, 77, 69, 68, 73, 65, 45, 83, 69, 81, 85, 69, 78, 67, 69, 58] ++ Lib.decDigits seq ++ [10]) ++
  ([35, 69, 88, 84, 45, 88, 45, 84, 65, 82, 71, 69, 84, 68, 85, 82, 65, 84, 73, 79, 78, 58] ++ Lib.decDigits td ++ [10])) ++
  (if 0 < st then [35, 69, 88, 84, 45, 88, 45, 83, 84, 65, 82, 84, 58, 84, 73, 77, 69, 45, 79, 70, 70, 83, 69, 84, 61] ++ shortT st ++ (if pre = true then [44, 80, 82, 69, 67, 73, 83, 69, 61, 89, 69, 83] else []) ++ [10] else []) ++
  (if 0 < dsq then [35, 69, 88, 84, 45, 88, 45, 68, 73, 83, 67, 79, 78, 84, 73, 78, 85, 73, 84, 89, 45, 83, 69, 81, 85, 69, 78, 67, 69, 58] ++ Lib.decDigits dsq ++ [10] else []) ++
  (if ifr = true then [35, 69, 88, 84, 45, 88, 45, 73, 45, 70, 82, 65, 77, 69, 83, 45, 79, 78, 76, 89, 10] else [])
/-- what Lines gives, its lines one behind the other -/
def linesX (s : SegD) : List UInt8 :=
  optT tb_6 s.key [] ++ (if s.disc = true then [35, 69, 88, 84, 45, 88, 45, 68, 73, 83, 67, 79, 78, 84, 73, 78, 85, 73, 84, 89, 10] else []) ++ optT tb_26 s.map [] ++
  (if strNe s.date ⟨#[]⟩ = true then [35, 69, 88, 84, 45, 88, 45, 80, 82, 79, 71, 82, 65, 77, 45, 68, 65, 84, 69, 45, 84, 73, 77, 69, 58] ++ s.date.data.toList ++ [10] else []) ++
  (if 0 < s.li then [35, 69, 88, 84, 45, 88, 45, 66, 89, 84, 69, 82, 65, 78, 71, 69, 58] ++ Lib.decDigits s.li ++ [64] ++ Lib.decDigits s.off ++ [10] else []) ++
  ([35, 69, 88, 84, 73, 78, 70, 58] ++ sec3 s.e ++ [44] ++ s.title.data.toList ++ [10])
/-- a segment as the specification writes it -/
def segX (s : SegD) : List UInt8 := linesX s ++ s.uri.data.toList ++ [10]
/-- the whole -/
def specX (ver ty seq td st dsq : Nat) (pre ifr clo : Bool) (key : Option KeyD) (map : Option MapD) (segs : List SegD) : List UInt8 :=
  [35, 69, 88, 84, 77, 51, 85, 10, 35, 69, 88, 84, 45, 88, 45, 86, 69, 82, 83, 73, 79, 78, 58] ++ Lib.decDigits ver ++ [10] ++ headX ty seq td st dsq pre ifr key map ++
  segs.flatMap segX ++ (if clo = true then [35, 69, 88, 84, 45, 88, 45, 69, 78, 68, 76, 73, 83, 84, 10] else [])
/-- a segment without its head -/
def noMap (s : SegD) : SegD := { s with map := none }

theorem headT_eq (d : PlD) (key : Option KeyD) (map : Option MapD) :
    headT d key map = [35, 69, 88, 84, 77, 51, 85, 10, 35, 69, 88, 84, 45, 88, 45, 86, 69, 82, 83, 73, 79, 78, 58] ++ Lib.decDigits d.ver ++ [10] ++ headX d.ty d.seq d.td d.st d.dsq d.pre d.ifr key map := by
  unfold headT headX
  rw [app_tx_61, app_tx_57, app_tx_51, app_tx_37, app_opt app_tb_26, app_opt app_tb_6]
  have h1 : tx_61 d [] = (if d.ifr = true then [35, 69, 88, 84, 45, 88, 45, 73, 45, 70, 82, 65, 77, 69, 83, 45, 79, 78, 76, 89, 10] else []) := by unfold tx_61; split <;> simp
  have h2 : tx_57 d [] = (if 0 < d.dsq then [35, 69, 88, 84, 45, 88, 45, 68, 73, 83, 67, 79, 78, 84, 73, 78, 85, 73, 84, 89, 45, 83, 69, 81, 85, 69, 78, 67, 69, 58] ++ Lib.decDigits d.dsq ++ [10] else []) := by
    unfold tx_57
    by_cases h : 0 < d.dsq
    · rw [if_pos h, if_pos (by simp; omega)]; simp
    · rw [if_neg h, if_neg (by simp; omega)]
  have h3 : tx_51 d [] = (if 0 < d.st then [35, 69, 88, 84, 45, 88, 45, 83, 84, 65, 82, 84, 58, 84, 73, 77, 69, 45, 79, 70, 70, 83, 69, 84, 61] ++ shortT d.st ++ (if d.pre = true then [44, 80, 82, 69, 67, 73, 83, 69, 61, 89, 69, 83] else []) ++ [10] else []) := by
    unfold tx_51 tx_54
    by_cases h : 0 < d.st
    · rw [if_pos h, if_pos h]
      split <;> simp
    · rw [if_neg h, if_neg h]
  have h4 : tx_37 d [] = (if d.ty = 2 then [35, 69, 88, 84, 45, 88, 45, 80, 76, 65, 89, 76, 73, 83, 84, 45, 84, 89, 80, 69, 58, 86, 79, 68, 10] else []) := by unfold tx_37; split <;> simp
  rw [h1, h2, h3, h4]
  simp only [List.append_assoc, List.nil_append]
theorem rdT_eq (d : PlD) (s : SegD) (l : List UInt8) (ha : d.asI = false) : rdT d s l = l ++ segX (if d.mp.isNone then s else noMap s) := by
  unfold rdT segT4 segT1
  have hk : ∀ k l, tb_112 k l = l ++ tb_6 k [] := fun k l => app_tb_6 k l
  have h0 : optT tb_112 s.key l = l ++ optT tb_6 s.key [] := by
    cases s.key with
    | none => simp [optT]
    | some k => exact hk k l
  rw [app_tx_149, app_tx_145, app_segMap, app_tx_132, h0]
  have h1 : tx_149 s [] = (if 0 < s.li then [35, 69, 88, 84, 45, 88, 45, 66, 89, 84, 69, 82, 65, 78, 71, 69, 58] ++ Lib.decDigits s.li ++ [64] ++ Lib.decDigits s.off ++ [10] else []) := by
    unfold tx_149
    by_cases h : 0 < s.li
    · rw [if_pos h, if_pos (by simp; omega)]; simp
    · rw [if_neg h, if_neg (by simp; omega)]
  have h2 : tx_145 s [] = (if strNe s.date ⟨#[]⟩ = true then [35, 69, 88, 84, 45, 88, 45, 80, 82, 79, 71, 82, 65, 77, 45, 68, 65, 84, 69, 45, 84, 73, 77, 69, 58] ++ s.date.data.toList ++ [10] else []) := by unfold tx_145; split <;> simp
  have h3 : tx_132 s [] = (if s.disc = true then [35, 69, 88, 84, 45, 88, 45, 68, 73, 83, 67, 79, 78, 84, 73, 78, 85, 73, 84, 89, 10] else []) := by unfold tx_132; split <;> simp
  have h4 : segMapT d s [] = optT tb_26 (if d.mp.isNone then s else noMap s).map [] := by
    unfold segMapT
    split
    · cases s.map <;> rfl
    · rfl
  have h5 : durT d.asI s.e = sec3 s.e := by rw [ha]; rfl
  rw [h1, h2, h3, h4, h5]
  cases d.mp.isNone
  all_goals
    simp only [segX, linesX, noMap, if_true, Bool.false_eq_true, if_false, List.append_assoc]
theorem segsT_eq (d : PlD) (ha : d.asI = false) : ∀ (segs : List SegD) (l : List UInt8), segsT d segs l = l ++ (segs.map fun s => if d.mp.isNone then s else noMap s).flatMap segX
  | [], l => by simp [segsT]
  | s :: r, l => by
    have := segsT_eq d ha r (rdT d s l)
    unfold segsT at this ⊢
    rw [List.foldl_cons, this, rdT_eq d s l ha]
    simp
/-- ████ THE PLAIN LAW ████ -/
theorem encT_eq (d : PlD) (key : Option KeyD) (map : Option MapD) (segs : List SegD) (ha : d.asI = false) :
    encT d key map segs = specX d.ver d.ty d.seq d.td d.st d.dsq d.pre d.ifr d.clo key map ((segs.take (nWrit d)).map fun s => if d.mp.isNone then s else noMap s) := by
  unfold encT specX
  rw [app_tx_171, segsT_eq d ha, headT_eq]
  have h : tx_171 d [] = (if d.clo = true then [35, 69, 88, 84, 45, 88, 45, 69, 78, 68, 76, 73, 83, 84, 10] else []) := by unfold tx_171; split <;> simp
  rw [h]
theorem tmax_id (T : Nat) : ∀ (segs : List SegD), (∀ s ∈ segs, s.e ≤ 8 * T) → segs.foldl (fun T s => max T ((s.e + 7) / 8)) T = T
  | [], _ => rfl
  | s :: r, h => by
    rw [List.foldl_cons, show max T ((s.e + 7) / 8) = T from by have := h s List.mem_cons_self; omega]
    exact tmax_id T r fun x hx => h x (List.mem_cons_of_mem _ hx)
end Go.Proofs.YtlphcidpaidclaaGreatDoor
namespace Go.Proofs.YtlphcidpaidclaaGreatDoor
open Go.RowKit
set_option maxRecDepth 100000

/-- the specification's segment -/
def ssegC (s : SegD) (kp mp : Option Nat) : Array Value := #[.string s.title, .string s.uri, .int .i64 s.e, .int .i64 s.li, .int .i64 s.off, pto kp, pto mp, .bool s.disc, .string s.date]
/-- a key behind a pointer, or none -/
inductive SKey (w : World) : Option Nat → Option KeyD → Prop
  | nil : SKey w none none
  | mk {p : Nat} {k : KeyD} (h : Blk w p 89 (keyC k)) (ok : k.Ok) : SKey w (some p) (some k)
/-- a head behind a pointer, or none -/
inductive SMap (w : World) : Option Nat → Option MapD → Prop
  | nil : SMap w none none
  | mk {p : Nat} {m : MapD} (h : Blk w p 92 (mapC m)) (ok : m.Ok) : SMap w (some p) (some m)
section
variable {w w' : World} {k : Option KeyD} {m : Option MapD} {kp mp : Option Nat} {base n : Nat} {v : Value} {xs : List Value} {T e size : Nat} {cs : Array Value} {g : Nat}
theorem SKey.gn (h : SKey w kp k) (G : w.grownBy w' none) : SKey w' kp k := by
  cases h with
  | nil => exact .nil
  | mk h ok => exact .mk (h.gn G) ok
theorem SMap.gn (h : SMap w mp m) (G : w.grownBy w' none) : SMap w' mp m := by
  cases h with
  | nil => exact .nil
  | mk h ok => exact .mk (h.gn G) ok
theorem SKey.gk (h : SKey w kp k) {U : Nat} (hb : Blk w g U cs) (hU : 89 ≠ U) (G : w.grownBy w' (some g)) : SKey w' kp k := by
  cases h with
  | nil => exact .nil
  | mk h ok => exact .mk (h.gk G (h.ne_ hb hU)) ok
theorem SMap.gk (h : SMap w mp m) {U : Nat} (hb : Blk w g U cs) (hU : 92 ≠ U) (G : w.grownBy w' (some g)) : SMap w' mp m := by
  cases h with
  | nil => exact .nil
  | mk h ok => exact .mk (h.gk G (h.ne_ hb hU)) ok
/-- a block stands where a row of another type grows -/
theorem Blk.row (h : Blk w g T cs) (HO : w.ownsRow base e size v n xs) (hne : T ≠ e) (G : w.grownBy w' v.ownBlock) : Blk w' g T cs := by
  rcases HO.2 with ⟨rfl, _⟩ | ⟨r, cap, cur, rfl, _, hr, _⟩
  · exact h.gn G
  · exact h.gk G (h.ne_ (show Blk w r e cur from hr) hne)
theorem SKey.row (h : SKey w kp k) (HO : w.ownsRow base e size v n xs) (hne : 89 ≠ e) (G : w.grownBy w' v.ownBlock) : SKey w' kp k := by
  cases h with
  | nil => exact .nil
  | mk h ok => exact .mk (h.row HO hne G) ok
theorem SMap.row (h : SMap w mp m) (HO : w.ownsRow base e size v n xs) (hne : 92 ≠ e) (G : w.grownBy w' v.ownBlock) : SMap w' mp m := by
  cases h with
  | nil => exact .nil
  | mk h ok => exact .mk (h.row HO hne G) ok
theorem KeySl.row {kv : Value} (h : KeySl w kv k) (HO : w.ownsRow base e size v n xs) (hne : 99 ≠ e) (G : w.grownBy w' v.ownBlock) : KeySl w' kv k := by
  cases h with
  | nil => exact .nil
  | mk h ok => exact .mk (h.row HO hne G) ok
theorem MapSl.row {mv : Value} (h : MapSl w mv m) (HO : w.ownsRow base e size v n xs) (hne : 102 ≠ e) (G : w.grownBy w' v.ownBlock) : MapSl w' mv m := by
  cases h with
  | nil => exact .nil
  | mk h ok => exact .mk (h.row HO hne G) ok
theorem own_gn (HO : w.ownsRow base e size v n xs) (G : w.grownBy w' none) : w'.ownsRow base e size v n xs := by
  obtain ⟨h1, h2⟩ := HO
  refine ⟨h1, ?_⟩
  rcases h2 with h2 | ⟨r, cap, cur, rfl, hg, hh, rr⟩
  · exact .inl h2
  · exact .inr ⟨r, cap, cur, rfl, hg, Blk.gn (show Blk w r e cur from hh) G, rr⟩
theorem own_gk (HO : w.ownsRow base e size v n xs) {U : Nat} (hb : Blk w g U cs) (hU : e ≠ U) (G : w.grownBy w' (some g)) : w'.ownsRow base e size v n xs := by
  obtain ⟨h1, h2⟩ := HO
  refine ⟨h1, ?_⟩
  rcases h2 with h2 | ⟨r, cap, cur, rfl, hg, hh, rr⟩
  · exact .inl h2
  · exact .inr ⟨r, cap, cur, rfl, hg, Blk.gk (show Blk w r e cur from hh) G ((show Blk w r e cur from hh).ne_ hb hU), rr⟩
end

/-- the specification's segments in a row -/
def SRow (w : World) (base : Nat) (v : Value) (segs : List SegD) : Prop :=
  ∃ xs, w.ownsRow base 53 9 v segs.length xs ∧ ∀ i s, segs[i]? = some s → ∃ kp mp, (∀ k, k < 9 → xs[9 * i + k]? = (ssegC s kp mp)[k]?) ∧ SKey w kp s.key ∧ SMap w mp s.map
/-- segments of the thin package in a row -/
def IRow (w : World) (base : Nat) (v : Value) (segs : List SegD) : Prop :=
  ∃ xs, w.ownsRow base 30 11 v segs.length xs ∧ ∀ i s, segs[i]? = some s → ∃ kv mv, (∀ k, k < 11 → xs[11 * i + k]? = (segD 0 s kv mv)[k]?) ∧ KeySl w kv s.key ∧ MapSl w mv s.map
section
variable {w w' : World} {base g U : Nat} {v v' : Value} {segs : List SegD} {s : SegD} {kp mp : Option Nat} {kv mv : Value} {cs : Array Value} {xs : List Value}
theorem SRow.nil : SRow w base (.slice none 0 0) [] := ⟨[], ⟨rfl, .inl ⟨rfl, rfl⟩⟩, fun i s h => by simp at h⟩
theorem IRow.nil : IRow w base (.slice none 0 0) [] := ⟨[], ⟨rfl, .inl ⟨rfl, rfl⟩⟩, fun i s h => by simp at h⟩
theorem SRow.gn (h : SRow w base v segs) (G : w.grownBy w' none) : SRow w' base v segs := by
  obtain ⟨xs, h1, h2⟩ := h
  refine ⟨xs, own_gn h1 G, fun i s hs => ?_⟩
  obtain ⟨kp, mp, h3, h4, h5⟩ := h2 i s hs
  exact ⟨kp, mp, h3, h4.gn G, h5.gn G⟩
theorem IRow.gn (h : IRow w base v segs) (G : w.grownBy w' none) : IRow w' base v segs := by
  obtain ⟨xs, h1, h2⟩ := h
  refine ⟨xs, own_gn h1 G, fun i s hs => ?_⟩
  obtain ⟨kp, mp, h3, h4, h5⟩ := h2 i s hs
  exact ⟨kp, mp, h3, h4.gn G, h5.gn G⟩
theorem SRow.gk (h : SRow w base v segs) (hb : Blk w g U cs) (h1 : 53 ≠ U) (h2 : 89 ≠ U) (h3 : 92 ≠ U) (G : w.grownBy w' (some g)) : SRow w' base v segs := by
  obtain ⟨xs, h4, h5⟩ := h
  refine ⟨xs, own_gk h4 hb h1 G, fun i s hs => ?_⟩
  obtain ⟨kp, mp, h6, h7, h8⟩ := h5 i s hs
  exact ⟨kp, mp, h6, h7.gk hb h2 G, h8.gk hb h3 G⟩
/-- rows of another type grow -/
theorem SRow.row {b2 e size n : Nat} {v2 : Value} {ys : List Value} (h : SRow w base v segs) (HO : w.ownsRow b2 e size v2 n ys) (h1 : 53 ≠ e) (h2 : 89 ≠ e) (h3 : 92 ≠ e) (G : w.grownBy w' v2.ownBlock) : SRow w' base v segs := by
  rcases HO.2 with ⟨rfl, _⟩ | ⟨r, cap, cur, rfl, _, hr, _⟩
  · exact h.gn G
  · exact h.gk (show Blk w r e cur from hr) h1 h2 h3 G
theorem getElem_snoc {xs ys : List Value} {n i k m : Nat} (hx : xs.length = m * n) (hi : i = n) : (xs ++ ys)[m * i + k]? = ys[k]? := by
  subst hi
  rw [List.getElem?_append_right (by omega)]
  congr 1; omega
/-- one more -/
theorem SRow.snoc (hx : w.ownsRow base 53 9 v segs.length xs) (he : ∀ i s, segs[i]? = some s → ∃ kp mp, (∀ k, k < 9 → xs[9 * i + k]? = (ssegC s kp mp)[k]?) ∧ SKey w kp s.key ∧ SMap w mp s.map)
    (G : w.grownBy w' v.ownBlock) (hw : w'.ownsRow base 53 9 v' (segs.length + 1) (xs ++ (ssegC s kp mp).toList)) (hk : SKey w kp s.key) (hm : SMap w mp s.map) : SRow w' base v' (segs ++ [s]) := by
  refine ⟨_, by simpa using hw, fun i s' hs => ?_⟩
  rcases Nat.lt_or_ge i segs.length with hlt | hge
  · rw [List.getElem?_append_left hlt] at hs
    obtain ⟨kp', mp', h3, h4, h5⟩ := he i s' hs
    refine ⟨kp', mp', fun k hk => ?_, h4.row hx (by decide) G, h5.row hx (by decide) G⟩
    rw [List.getElem?_append_left (by rw [hx.1]; omega)]
    exact h3 k hk
  · have hi : i = segs.length := by
      have := (List.getElem?_eq_some_iff.1 hs).1
      simp at this; omega
    subst hi
    obtain rfl : s = s' := by simpa using hs
    refine ⟨kp, mp, fun k hk => ?_, hk.row hx (by decide) G, hm.row hx (by decide) G⟩
    rw [getElem_snoc (by rw [hx.1]; omega) rfl]
    simp
theorem IRow.snoc (hx : w.ownsRow base 30 11 v segs.length xs) (he : ∀ i s, segs[i]? = some s → ∃ kv mv, (∀ k, k < 11 → xs[11 * i + k]? = (segD 0 s kv mv)[k]?) ∧ KeySl w kv s.key ∧ MapSl w mv s.map)
    (G : w.grownBy w' v.ownBlock) (hw : w'.ownsRow base 30 11 v' (segs.length + 1) (xs ++ (segD 0 s kv mv).toList)) (hk : KeySl w kv s.key) (hm : MapSl w mv s.map) : IRow w' base v' (segs ++ [s]) := by
  refine ⟨_, by simpa using hw, fun i s' hs => ?_⟩
  rcases Nat.lt_or_ge i segs.length with hlt | hge
  · rw [List.getElem?_append_left hlt] at hs
    obtain ⟨kp', mp', h3, h4, h5⟩ := he i s' hs
    refine ⟨kp', mp', fun k hk => ?_, h4.row hx (by decide) G, h5.row hx (by decide) G⟩
    rw [List.getElem?_append_left (by rw [hx.1]; omega)]
    exact h3 k hk
  · have hi : i = segs.length := by
      have := (List.getElem?_eq_some_iff.1 hs).1
      simp at this; omega
    subst hi
    obtain rfl : s = s' := by simpa using hs
    refine ⟨kv, mv, fun k hk => ?_, hk.row hx (by decide) G, hm.row hx (by decide) G⟩
    rw [getElem_snoc (by rw [hx.1]; omega) rfl]
    simp
/-- as WriteMedia takes it -/
theorem IRow.seg (h : IRow w base v segs) : SegSl w v segs := by
  obtain ⟨xs, ⟨h1, h2⟩, h3⟩ := h
  rcases h2 with ⟨rfl, h2⟩ | ⟨r, cap, cur, rfl, _, hr, hn, _, hc, ht⟩
  · obtain rfl := List.eq_nil_of_length_eq_zero h2
    exact .nil
  · refine .mk (show Blk w r 30 cur from hr) hn fun i s hs => ?_
    obtain ⟨kv, mv, h4, h5, h6⟩ := h3 i s hs
    refine ⟨kv, mv, fun k hk => ?_, h5, h6⟩
    rw [← h4 k hk, ← ht, List.getElem?_take]
    have hi := (List.getElem?_eq_some_iff.1 hs).1
    rw [if_pos (by omega)]
    simp
theorem SRow.len {ty : TypeId} {cb : Array Bool} (h : SRow w base v segs) (w' : World) : (builtin .len #[42] ty cb #[v]).run Tryz.prog w' = .ok (.value (.int .i64 segs.length)) w' := by
  obtain ⟨xs, ⟨h1, h2⟩, h3⟩ := h
  rcases h2 with ⟨rfl, h2⟩ | ⟨r, cap, cur, rfl, _⟩
  · rw [h2]; kernel_rfl
  · kernel_rfl
theorem ixsp_run (g n c j : Nat) (hj : j < n) (w : World) : (Instr.indexAt 42 (.slice (some ⟨g, 0, none⟩) n c) (.int .i64 j)).run Tryz.prog w = .ok (.pointer (some ⟨g, 9 * j, none⟩)) w := by
  have h1 : (j : Int) < (n : Int) := by omega
  have h2 : (0 : Int) ≤ (j : Int) := by omega
  simp [go_sem, h1, h2]
/-- one element: its address, its fields -/
theorem SRow.elem {j : Nat} (h : SRow w base v segs) (hj : j < segs.length) :
    ∃ ad kp mp, (∀ w', (Instr.indexAt 42 v (.int .i64 j)).run Tryz.prog w' = .ok (.pointer (some ad)) w') ∧ (∀ w', Kp [] w w' → (Instr.loadAt 53 (.pointer (some ad))).run Tryz.prog w' = .ok (.agg (ssegC segs[j] kp mp)) w') ∧ SKey w kp segs[j].key ∧ SMap w mp segs[j].map := by
  obtain ⟨xs, ⟨h1, h2⟩, h3⟩ := h
  obtain ⟨kp, mp, h4, h5, h6⟩ := h3 j segs[j] (List.getElem?_eq_getElem hj)
  rcases h2 with ⟨rfl, h2⟩ | ⟨r, cap, cur, rfl, _, hr, hn, _, hc, ht⟩
  · omega
  · refine ⟨⟨r, 9 * j, none⟩, kp, mp, fun w' => ixsp_run r _ cap j hj w', fun w' K => ?_, h5, h6⟩
    refine ld_agg (n := 9) (fun _ => by kernel_rfl) (fun _ => by kernel_rfl) ((show Blk w r 53 cur from hr).kp K (by simp)) rfl fun k hk => ?_
    rw [← h4 k hk, ← ht, List.getElem?_take, if_pos (by omega)]
    simp
/-- the first so many -/
theorem SRow.take {n : Nat} {v' : Value} (h : SRow w base v segs) (hn : n ≤ segs.length) (hv : v.ownBlock = none → n = 0 ∧ v' = .slice none 0 0) (hv' : ∀ g c, v = .slice (some ⟨g, 0, none⟩) segs.length c → v' = .slice (some ⟨g, 0, none⟩) n c) : SRow w base v' (segs.take n) := by
  obtain ⟨xs, ⟨h1, h2⟩, h3⟩ := h
  have hl : (segs.take n).length = n := by rw [List.length_take]; omega
  refine ⟨xs.take (n * 9), ⟨by rw [hl, List.length_take, h1]; omega, ?_⟩, fun i s hs => ?_⟩
  · rw [hl]
    rcases h2 with ⟨rfl, h2⟩ | ⟨r, cap, cur, rfl, hb, hr, hc, hm, hs, ht⟩
    · obtain ⟨e1, e2⟩ := hv rfl
      exact .inl ⟨e2, e1⟩
    · refine .inr ⟨r, cap, cur, hv' r cap rfl, hb, hr, by omega, hm, hs, ?_⟩
      rw [← ht, List.take_take]
      congr 1; omega
  · have hi := (List.getElem?_eq_some_iff.1 hs).1
    rw [hl] at hi
    rw [List.getElem?_take, if_pos hi] at hs
    obtain ⟨kp, mp, h4, h5, h6⟩ := h3 i s hs
    refine ⟨kp, mp, fun k hk => ?_, h5, h6⟩
    rw [List.getElem?_take, if_pos (by omega)]
    exact h4 k hk
end

/-- the specification's playlist, all but its keys, heads and segments -/
structure MedD where
  ver : Nat
  td : Nat
  seq : Nat
  dsq : Nat
  ty : Nat
  st : Nat
  pre : Bool
  ifr : Bool
  clo : Bool
def medC (m : MedD) (kp mp : Option Nat) (sv : Value) : Array Value := #[.int .i64 m.ver, .int .i64 m.td, .int .u64 m.seq, .int .u64 m.dsq, .int .i64 m.ty, .int .i64 m.st, .bool m.pre, .bool m.ifr, .bool m.clo, pto kp, pto mp, sv]
structure MedD.Ok (m : MedD) : Prop where
  ver : m.ver < 8
  td : 20 ≤ m.td ∧ m.td < 70
  seq : m.seq < 4294967296
  dsq : m.dsq < 1000
  ty : m.ty < 3
  st : m.st < 301
/-- what is known of a segment -/
def SegOk (s : SegD) : Prop := s.Ok ∧ s.e < 160
end Go.Proofs.YtlphcidpaidclaaGreatDoor
namespace Go.Proofs.YtlphcidpaidclaaGreatDoor
open Go.RowKit
set_option maxRecDepth 100000

theorem app1_size {t : ByteArray} {j : Nat} {x : UInt8} (h : t.size ≤ j) : (t ++ bs [x]).size ≤ j + 1 := by
  rw [ByteArray.size_append]
  show t.size + 1 ≤ j + 1
  omega
theorem sz_w {t : ByteArray} {j : Nat} (h : t.size ≤ j) (hj : j ≤ 12) : (({ data := #[119] } : ByteArray) ++ t ++ { data := #[119] }).size ≤ 14 := by
  rw [ByteArray.size_append, ByteArray.size_append]
  show 1 + t.size + 1 ≤ 14
  omega
theorem toList_nil_of {t : ByteArray} (h : ¬ 0 < t.size) : t.toList = [] := by
  obtain ⟨⟨l⟩⟩ := t
  have : l = [] := List.eq_nil_of_length_eq_zero (by have : (⟨⟨l⟩⟩ : ByteArray).size = l.length := rfl; omega)
  subst this
  decide +kernel
theorem wordOf_any (n : Int) (h0 : 0 ≤ n) (h1 : n ≤ 4294967295) (k : Nat) (hk : k ≤ 1) (w : World) :
    Calls Tryz.prog 37 #[.int .u32 n, .int .i64 k] w fun e w' => (∃ s : ByteArray, e = .returned (.string s) ∧ s.size ≤ 14) ∧ w = w' := by
  obtain ⟨c, hc⟩ : ∃ c : Nat, (c : Int) = n % 12 := ⟨(n % 12).toNat, by omega⟩
  have hc8 : c ≤ 11 := by omega
  go_enter Tryz.func37, Tryz.ntmps37
  go_wp2
  rw [← hc]
  clear hc
  go_loop [5, 12] (fun v i => ∃ (j : Nat) (t : ByteArray), j ≤ k + c ∧ i = .int .i64 j ∧ v = .string t ∧ t.size ≤ j) (fun _ i => k + c - (intOf i).toNat)
  case atStart => exact ⟨0, _, by omega, rfl, rfl, Nat.le_refl _⟩
  case round =>
    obtain ⟨j, t, hj, rfl, rfl, ht⟩ := hrel
    by_cases hj2 : j < k + c
    · have hE := enc_tab ({ data := #[97, 98, 99, 100, 101, 102, 103, 88, 89, 90, 48, 49, 56, 57, 46, 95, 45, 47, 32, 58] } : ByteArray) (by decide)
      have hp : 0 ≤ n / 2048 * (j : Int) ∧ n / 2048 * (j : Int) ≤ 25165824 := by
        constructor
        · exact Int.mul_nonneg (by omega) (by omega)
        · calc n / 2048 * (j : Int) ≤ 2097152 * (j : Int) := Int.mul_le_mul_of_nonneg_right (by omega) (by omega)
            _ ≤ 25165824 := by omega
      go_wp2
      go_round
      case rel => exact ⟨j + 1, _, by omega, by go_num, rfl, app1_size ht⟩
      case measure => simp [intOf]; omega
    · go_wp2
      all_goals
        first | (go_ret; refine ⟨⟨_, rfl, ?_⟩, rfl⟩; first | exact sz_w ht (by omega) | exact Nat.le_trans ht (by omega)) | exact absurd (toList_nil_of (by assumption)) (by assumption)
theorem uriOf_any (n : Int) (h0 : 0 ≤ n) (h1 : n ≤ 4294967295) (w : World) :
    Calls Tryz.prog 29 #[.int .u32 n] w fun e w' => (∃ s : ByteArray, e = .returned (.string s) ∧ s.size ≤ 18) ∧ w = w' := by
  have HW := Lib.hid (wordOf_any n h0 h1 1 (Nat.le_refl 1))
  go_enter Tryz.func29, Tryz.ntmps29
  go_wp2_with fail
  refine (HW.out _).mono ?_
  rintro e w' ⟨⟨s, rfl, hs⟩, rfl⟩
  go_wp2_with fail
  go_ret
  exact ⟨⟨_, rfl, by simp only [ByteArray.size_append]; show 1 + s.size + 3 ≤ 18; omega⟩, rfl⟩

set_option maxHeartbeats 2000000 in
theorem seconds_any (n : Nat) (hn : n < 4000) (w : World) :
    Calls Tryz.prog 41 #[.int .i64 n] w fun e w' => e = .returned (.string (bs (sec3 n))) ∧ w = w' := by
  have HD := Lib.hid fun (m : Int) w h0 h1 => decimal_any m w h0 h1
  have d1 := dd_size (n := n / 8) (k := 3) (by omega) (by omega)
  have d2 := dd_size (n := n % 8 * 125 / 100) (k := 1) (by omega) (by omega)
  have d3 := dd_size (n := n % 8 * 125 / 10 % 10) (k := 1) (by omega) (by omega)
  have d4 := dd_size (n := n % 8 * 125 % 10) (k := 1) (by omega) (by omega)
  have hS : bs (sec3 n) = bs (Lib.decDigits (n / 8)) ++ ({ data := #[46] } : ByteArray) ++ bs (Lib.decDigits (n % 8 * 125 / 100)) ++ bs (Lib.decDigits (n % 8 * 125 / 10 % 10)) ++ bs (Lib.decDigits (n % 8 * 125 % 10)) := by
    unfold sec3
    exact (bs_eq (by simp only [data_app])).symm
  have HS := Lib.hid hS
  clear hS
  have hr2 : n % 8 * 125 < 1000 := by omega
  go_enter Tryz.func41, Tryz.ntmps41
  go_wp2_with fail
  refine (HD.out _ _ (by omega) (by omega)).mono ?_
  rintro e w' ⟨rfl, rfl⟩
  rw [show ((n : Int) / 8).toNat = n / 8 by omega]
  rw [show (n : Int) % 8 * 125 = ((n % 8 * 125 : Nat) : Int) by omega]
  generalize n % 8 * 125 = r at *
  generalize hU1 : bs (Lib.decDigits (n / 8)) = U1 at *
  go_wp2_with fail
  refine (HD.out _ _ (by omega) (by omega)).mono ?_
  rintro e w' ⟨rfl, rfl⟩
  rw [show ((r : Int) / 100).toNat = r / 100 by omega]
  generalize hU2 : bs (Lib.decDigits (r / 100)) = U2 at *
  go_wp2_with fail
  refine (HD.out _ _ (by omega) (by omega)).mono ?_
  rintro e w' ⟨rfl, rfl⟩
  rw [show ((r : Int) / 10 % 10).toNat = r / 10 % 10 by omega]
  generalize hU3 : bs (Lib.decDigits (r / 10 % 10)) = U3 at *
  go_wp2_with fail
  refine (HD.out _ _ (by omega) (by omega)).mono ?_
  rintro e w' ⟨rfl, rfl⟩
  rw [show ((r : Int) % 10).toNat = r % 10 by omega]
  generalize hU4 : bs (Lib.decDigits (r % 10)) = U4 at *
  go_wp2_with fail
  go_ret
  refine ⟨ret_str ?_, rfl⟩
  rw [HS.out]
theorem strNe_nil (s : ByteArray) : strNe s ⟨#[]⟩ = !s.toList.isEmpty := by
  unfold strNe
  have h : (⟨#[]⟩ : ByteArray).toList = [] := by decide +kernel
  rw [h]
  cases s.toList <;> rfl
theorem strNe_none (s : ByteArray) : strNe s ⟨#[78, 79, 78, 69]⟩ = !(s.toList == [78, 79, 78, 69]) := by
  unfold strNe
  have h : (⟨#[78, 79, 78, 69]⟩ : ByteArray).toList = [78, 79, 78, 69] := by decide +kernel
  rw [h]
theorem keyText_any (p : Nat) (k : KeyD) (hk : k.Ok) (w : World) (h : Blk w p 89 (keyC k)) :
    Calls Tryz.prog 38 #[pt p] w fun e w' => e = .returned (.string (bs (tb_6 k []))) ∧ w = w' := by
  have h0 : w.cell? ⟨p, 0, none⟩ = some (.string k.me) := h.cell 0
  have h1 : w.cell? ⟨p, 1, none⟩ = some (.string k.uri) := h.cell 1
  have h2 : w.cell? ⟨p, 2, none⟩ = some (.string k.iv) := h.cell 2
  have h3 : w.cell? ⟨p, 3, none⟩ = some (.string k.fo) := h.cell 3
  have h4 : w.cell? ⟨p, 4, none⟩ = some (.string k.ve) := h.cell 4
  have s0 := hk.me
  have s1 := hk.uri
  have s2 := hk.iv
  have s3 := hk.fo
  have s4 := hk.ve
  clear h hk
  go_enter Tryz.func38, Tryz.ntmps38
  go_wp2
  all_goals
    go_ret
    refine ⟨ret_str (bs_eq ?_), rfl⟩
    simp only [data_app, tb_6, tx_10, tx_14, tx_17, tx_21, strNe_nil, strNe_none, *, Bool.not_true, Bool.not_false, Bool.false_eq_true, if_true, if_false, List.append_assoc, List.nil_append]
    first | rfl | (simp; done) | skip

theorem decimal_s (n : Int) (w : World) (h0 : 0 ≤ n) (hm : n ≤ 18446744073709551615) :
    Calls Tryz.prog 6 #[.int .u64 n] w fun e w' => e = .returned (.string (bs (Lib.decDigits n.toNat))) ∧ w' = w :=
  (decimal_any n w h0 hm).mono fun _ _ h => ⟨h.1, h.2.symm⟩
theorem grown_drewN (w : World) (k : Nat) : w.grownBy (w.drewN k) none := ⟨rfl, rfl, rfl, Nat.le_refl _, fun _ _ _ => rfl⟩
/-- .. without noughts at the end -/
theorem short_of {n i : Nat} {u : List UInt8} {c : UInt8} (h : sec3 n = u ++ [c] ++ List.replicate i 48) (hc : c ≠ 48) : shortT n = if c = 46 then u else u ++ [c] := by
  have h1 : (sec3 n).reverse.dropWhile (· == 48) = c :: u.reverse := by
    rw [h]
    simp only [List.reverse_append, List.reverse_replicate, List.reverse_singleton, List.singleton_append]
    rw [List.dropWhile_append_of_pos (by simp)]
    rw [List.dropWhile_cons_of_neg (by simpa using hc)]
  unfold shortT
  simp only [h1]
  by_cases h46 : c = 46
  · subst h46
    simp
  · rw [if_neg h46]
    split
    · rename_i r e
      simp only [List.cons.injEq] at e
      exact absurd e.1 h46
    · simp
theorem snoc_size (u : List UInt8) (c : UInt8) : (bs (u ++ [c])).size = u.length + 1 := by rw [size_bs]; simp
theorem snoc_last (u : List UInt8) (c : UInt8) (h) : (bs (u ++ [c]))[u.length]'h = c := by
  show (u ++ [c]).toArray[u.length]'_ = c
  simp
theorem snoc_init (u : List UInt8) (c : UInt8) : (bs (u ++ [c])).extract 0 u.length = bs u := by
  rw [ext_mid, data_bs]; simp
theorem short_any (n : Nat) (h1 : 0 < n) (hn : n < 301) (w : World) :
    Calls Tryz.prog 40 #[.int .i64 n] w fun e w' => e = .returned (.string (bs (shortT n))) ∧ w = w' := by
  have HS := Lib.hid fun w => seconds_any n (by omega) w
  have HL : ∀ m : Fin 301, (sec3 m.val).length ≤ 6 := by decide +kernel
  have hl := HL ⟨n, hn⟩
  have h46 : ∀ m : Fin 301, (46 : UInt8) ∈ sec3 m.val := by decide +kernel
  have HC := Lib.hid (h46 ⟨n, hn⟩)
  have snoc : ∀ {t : List UInt8} {i : Nat}, sec3 n = t ++ List.replicate i 48 → ∃ u c, t = u ++ [c] := by
    intro t i h
    have hm := HC.out
    simp only at hm
    rw [h] at hm
    rcases List.mem_append.1 hm with hm | hm
    · exact ⟨t.dropLast, t.getLast (List.ne_nil_of_mem hm), (List.dropLast_concat_getLast _).symm⟩
    · have := (List.mem_replicate.1 hm).2
      exact absurd this (by decide)
  have SN : Hid (∀ (t : List UInt8) (i : Nat), sec3 n = t ++ List.replicate i 48 → ∃ u c, t = u ++ [c]) := Lib.hid fun t i => @snoc t i
  clear snoc
  go_enter Tryz.func40, Tryz.ntmps40
  go_wp2_with fail
  refine (HS.out _).mono ?_
  rintro e w' ⟨rfl, rfl⟩
  go_wp2_with fail
  go_loop [3] (fun v => ∃ (u : List UInt8) (c : UInt8) (i : Nat), v = .string (bs (u ++ [c])) ∧ Hid (sec3 n = u ++ [c] ++ List.replicate i 48) ∧ u.length ≤ 5) (fun v => match v with | .string s => s.size | _ => 0)
  case atStart =>
    obtain ⟨u, c, e⟩ := SN.out (sec3 n) 0 (by simp)
    exact ⟨u, c, 0, by rw [e], Lib.hid (by rw [← e]; simp), by rw [e] at hl; simp at hl; omega⟩
  case round =>
    obtain ⟨u, c, i, rfl, HT, h5⟩ := hrel
    have hsz := snoc_size u c
    have hlast := snoc_last u c
    have hinit := snoc_init u c
    by_cases hc : c = 48
    · subst hc
      have hT : sec3 n = u ++ List.replicate (i + 1) 48 := by rw [HT.out, List.append_assoc]; rfl
      obtain ⟨u2, c2, e2⟩ := SN.out u (i + 1) hT
      have HT2 := Lib.hid hT
      have E2 := Lib.hid e2
      clear hT e2
      go_wp2
      refine ⟨⟨u2, c2, i + 1, by rw [E2.out], Lib.hid (by rw [← E2.out]; exact HT2.out), ?_⟩, ?_⟩
      · have := E2.out; rw [this] at h5; simp at h5; omega
      · show (bs u).size < (bs (u ++ [48])).size
        rw [hsz, size_bs]; omega
    · have hs := short_of HT.out hc
      have HSH := Lib.hid hs
      clear hs
      have hn48 : ¬ (c.toNat : Int) = 48 := by
        intro e
        exact hc (UInt8.toNat_inj.1 (by show c.toNat = 48; omega))
      by_cases hc46 : c = 46
      · subst hc46
        go_wp2
        go_ret
        refine ⟨ret_str ?_, rfl⟩
        rw [HSH.out]; rfl
      · have hn46 : ¬ (c.toNat : Int) = 46 := by
          intro e
          exact hc46 (UInt8.toNat_inj.1 (by show c.toNat = 46; omega))
        go_wp2
        go_ret
        refine ⟨ret_str ?_, rfl⟩
        rw [HSH.out, if_neg hc46]
end Go.Proofs.YtlphcidpaidclaaGreatDoor
namespace Go.Proofs.YtlphcidpaidclaaGreatDoor
open Go.RowKit
set_option maxRecDepth 100000

section
variable {a : Act} {w w' w2 : World} {dd : Option Tmp} {ty : TypeId} {p : String} {af : Array Edge} {gd : Option (Nat × Bool)} {x y : Operand} {vx vy v : Value} {t : TypeId}
theorem ex_bs {len : Nat} {ps : Array (Nat × Operand)} {vs : Array (Nat × Value)} (hx : ps.map (fun (i, x) => (i, a.eval x)) = vs) (h : (Instr.buildSlice t len vs).run Tryz.prog w = .ok v w') : (execOp a.eval ⟨dd, .buildSlice t len ps, ty, p, af, gd⟩).run Tryz.prog w = .ok (.value v) w' := by
  simp only [execOp, hx, Sem.run_bind, h, Result.andThen_ok, Sem.run_pure]
theorem ex_app {ts : Array TypeId} (hx : a.eval x = vx) (hy : a.eval y = vy) (h : (Builtin.append_ ts ty #[vx, vy]).run Tryz.prog w = .ok v w') : (execOp a.eval ⟨dd, .call ⟨.builtin .append, #[x, y], ts⟩, ty, p, af, gd⟩).run Tryz.prog w = .ok (.value v) w' := by
  simp only [execOp, resolve, invoke, builtin, Sem.run_bind, Sem.run_pure, Result.andThen_ok, List.map_toArray, List.map_cons, List.map_nil, hx, hy, h]
end
/-- a new row -/
theorem bs_run {w : World} {g n : Nat} {op : Sem Value} {T : Nat} {cs : Array Value} (hg : w.heap.size = g) (h : ∀ w, op.run Tryz.prog w = .ok (.slice (some ⟨w.heap.size, 0, none⟩) n n) (w.alloc (.cells cs T))) :
    ∃ w', op.run Tryz.prog w = .ok (.slice (some ⟨g, 0, none⟩) n n) w' ∧ Blk w' g T cs ∧ w.grownBy w' none ∧ w'.heap.size = g + 1 := by
  subst hg
  exact ⟨_, h w, Blk.new rfl, grown_alloc _ _, by simp⟩
/-- append of new elements -/
theorem push_run {w : World} {base e sz by_ : Nat} {t ty : TypeId} {z v : Value} {n m c g : Nat} {xs : List Value} {cs : Array Value} (ht : Tryz.prog.underlying t = some (.slice e)) (hinfo : (Tryz.prog.info? e).map (fun i => (i.zero, i.size, i.bytes)) = some (some z, sz, by_)) (hz : z.cells.size = sz) (hs : 0 < sz) (hb : 0 < by_)
    (HO : w.ownsRow base e sz v n xs) (hB : Blk w g e cs) (hl : cs.size = m * sz) (h1 : ∀ u ∈ cs.toList, u.oneCell' = true) (hbase : base ≤ w.heap.size) (hn : (n + m) * by_ ≤ 140737488355328) :
    ∃ v' w', (Builtin.append_ #[t, t] ty #[v, .slice (some ⟨g, 0, none⟩) m c]).run Tryz.prog w = .ok v' w' ∧ w'.ownsRow base e sz v' (n + m) (xs ++ cs.toList) ∧ w.grownBy w' v.ownBlock := by
  obtain ⟨i0, hi, hzz⟩ := Option.map_eq_some_iff.1 hinfo
  simp only [Prod.mk.injEq] at hzz
  obtain ⟨hz0, hz1, hz2⟩ := hzz
  obtain ⟨v', w', h2, h3, h4, _⟩ := run_append_own (P := Tryz.prog) w base t ty e i0 z sz by_ ht hi hz0 hz1 hz2 hz hs v n xs HO ⟨g, 0, none⟩ m c cs.toList (by simpa using hl)
    (fun j u hj => by rw [Lib.add_plain, Nat.zero_add, hB.cell]; simpa using hj) h1 (Nat.le_trans (Nat.le_mul_of_pos_right _ hb) (Nat.le_trans hn (by decide))) hn hbase
  exact ⟨v', w', h2, h3, h4⟩
theorem Kp.row {D : List Nat} {w w1 w2 : World} {base e size n : Nat} {v : Value} {xs : List Value} (h : Kp D w w1) (HO : w1.ownsRow base e size v n xs) (hb : w.heap.size ≤ base) (G : w1.grownBy w2 v.ownBlock) : Kp D w w2 := by
  rcases HO.2 with ⟨rfl, _⟩ | ⟨r, cap, cur, rfl, hr, _⟩
  · exact h.new G
  · exact h.set (g := r) G (Or.inr (Nat.le_trans hb hr))

/-- texts in a row -/
def TRow (w : World) (base : Nat) (v : Value) (ls : List (List UInt8)) : Prop := w.ownsRow base 9 1 v ls.length (ls.map fun l => .string (bs l))
/-- bytes in a row -/
def BRow (w : World) (base : Nat) (v : Value) (l : List UInt8) : Prop := w.ownsRow base 5 1 v l.length (l.map fun b => .int .u8 b.toNat)
section
variable {w w' : World} {base g U n c : Nat} {v : Value} {ls : List (List UInt8)} {l : List UInt8} {cs : Array Value}
theorem TRow.nil : TRow w base (.slice none 0 0) [] := ⟨rfl, .inl ⟨rfl, rfl⟩⟩
theorem TRow.zero (h : Blk w g 9 #[]) (hb : base ≤ g) : TRow w base (.slice (some ⟨g, 0, none⟩) 0 0) [] := ⟨rfl, .inr ⟨g, 0, #[], rfl, hb, h, Nat.le_refl _, by decide, rfl, rfl⟩⟩
theorem TRow.gn (h : TRow w base v ls) (G : w.grownBy w' none) : TRow w' base v ls := own_gn h G
theorem TRow.gk (h : TRow w base v ls) (hb : Blk w g U cs) (hU : 9 ≠ U) (G : w.grownBy w' (some g)) : TRow w' base v ls := own_gk h hb hU G
theorem BRow.gn (h : BRow w base v l) (G : w.grownBy w' none) : BRow w' base v l := own_gn h G
theorem BRow.gk (h : BRow w base v l) (hb : Blk w g U cs) (hU : 5 ≠ U) (G : w.grownBy w' (some g)) : BRow w' base v l := own_gk h hb hU G
theorem TRow.push {ty : TypeId} (h : TRow w base v ls) (ns : List (List UInt8)) (hB : Blk w g 9 (ns.map fun l => Value.string (bs l)).toArray) (hm : ns.length = n) (hbase : base ≤ w.heap.size) (hn : ls.length + n ≤ 1000000) :
    ∃ v' w', (Builtin.append_ #[85, 85] ty #[v, .slice (some ⟨g, 0, none⟩) n c]).run Tryz.prog w = .ok v' w' ∧ TRow w' base v' (ls ++ ns) ∧ w.grownBy w' v.ownBlock := by
  obtain ⟨v', w', h1, h2, h3⟩ := push_run (t := 85) (ty := ty) (z := .string ⟨#[]⟩) (sz := 1) (by_ := 16) (m := n) (c := c) Tryz.underlying85 (by kernel_rfl) rfl (by decide) (by decide) h hB (by simp [hm]) (by
    intro u hu
    obtain ⟨l, _, rfl⟩ := List.mem_map.1 (by simpa using hu)
    rfl) hbase (by omega)
  refine ⟨v', w', h1, ?_, h3⟩
  unfold TRow
  rw [List.length_append, hm, List.map_append]
  exact h2
theorem BRow.push {ty : TypeId} (h : BRow w base v l) (ns : List UInt8) (hB : Blk w g 5 (ns.map fun (b : UInt8) => Value.int .u8 b.toNat).toArray) (hm : ns.length = n) (hbase : base ≤ w.heap.size) (hn : l.length + n ≤ 1000000) :
    ∃ v' w', (Builtin.append_ #[23, 23] ty #[v, .slice (some ⟨g, 0, none⟩) n c]).run Tryz.prog w = .ok v' w' ∧ BRow w' base v' (l ++ ns) ∧ w.grownBy w' v.ownBlock := by
  obtain ⟨v', w', h1, h2, h3⟩ := push_run (t := 23) (ty := ty) (z := .int .u8 0) (sz := 1) (by_ := 1) (m := n) (c := c) Tryz.underlying23 (by kernel_rfl) rfl (by decide) (by decide) h hB (by simp [hm]) (by
    intro u hu
    obtain ⟨l, _, rfl⟩ := List.mem_map.1 (by simpa using hu)
    rfl) hbase (by omega)
  refine ⟨v', w', h1, ?_, h3⟩
  unfold BRow
  rw [List.length_append, hm, List.map_append]
  exact h2
theorem TRow.len {ty : TypeId} {cb : Array Bool} (h : TRow w base v ls) (w' : World) : (builtin .len #[85] ty cb #[v]).run Tryz.prog w' = .ok (.value (.int .i64 ls.length)) w' := by
  obtain ⟨h1, h2⟩ := h
  rcases h2 with ⟨rfl, h2⟩ | ⟨r, cap, cur, rfl, _⟩
  · rw [h2]; kernel_rfl
  · kernel_rfl
theorem ixt_run (g n c j : Nat) (hj : j < n) (w : World) : (Instr.indexAt 85 (.slice (some ⟨g, 0, none⟩) n c) (.int .i64 j)).run Tryz.prog w = .ok (.pointer (some ⟨g, j, none⟩)) w := by
  have h1 : (j : Int) < (n : Int) := by omega
  have h2 : (0 : Int) ≤ (j : Int) := by omega
  simp [go_sem, h1, h2]
/-- one text: its address, what stands there -/
theorem TRow.elem {j : Nat} (h : TRow w base v ls) (hj : j < ls.length) :
    ∃ ad, (∀ w', (Instr.indexAt 85 v (.int .i64 j)).run Tryz.prog w' = .ok (.pointer (some ad)) w') ∧ w.cell? ad = some (.string (bs ls[j])) := by
  obtain ⟨h1, h2⟩ := h
  rcases h2 with ⟨rfl, h2⟩ | ⟨r, cap, cur, rfl, _, hr, hn, _, hc, ht⟩
  · omega
  · refine ⟨⟨r, j, none⟩, fun w' => ixt_run r _ cap j hj w', ?_⟩
    rw [(show Blk w r 9 cur from hr).cell]
    have : (cur.toList.take (ls.length * 1))[j]? = some (.string (bs ls[j])) := by rw [ht]; simp [hj]
    rw [List.getElem?_take, if_pos (by omega)] at this
    simpa using this
theorem SRow.push {ty : TypeId} {segs : List SegD} {s : SegD} {kp mp : Option Nat} (h : SRow w base v segs) (hB : Blk w g 53 (ssegC s kp mp)) (hk : SKey w kp s.key) (hm : SMap w mp s.map) (hbase : base ≤ w.heap.size) (hn : segs.length ≤ 1000) :
    ∃ v' w', (Builtin.append_ #[42, 42] ty #[v, .slice (some ⟨g, 0, none⟩) 1 c]).run Tryz.prog w = .ok v' w' ∧ SRow w' base v' (segs ++ [s]) ∧ w.grownBy w' v.ownBlock ∧ ∃ xs, w.ownsRow base 53 9 v segs.length xs := by
  obtain ⟨xs, h1, h2⟩ := id h
  obtain ⟨by_, hby, hb1, hb2⟩ : ∃ by_, (Tryz.prog.info? 53).map (fun i => (i.zero, i.size, i.bytes)) = some (some (.agg #[.string ⟨#[]⟩, .string ⟨#[]⟩, .int .i64 0, .int .i64 0, .int .i64 0, .pointer none, .pointer none, .bool false, .string ⟨#[]⟩]), 9, by_) ∧ 0 < by_ ∧ by_ ≤ 200 := ⟨96, by kernel_rfl, by decide, by decide⟩
  obtain ⟨v', w', h3, h4, h5⟩ := push_run (t := 42) (ty := ty) (m := 1) (c := c) Tryz.underlying42 hby rfl (by decide) hb1 h1 hB rfl (by
    intro u hu
    simp only [ssegC, List.mem_cons, List.not_mem_nil, or_false] at hu
    rcases hu with rfl | rfl | rfl | rfl | rfl | rfl | rfl | rfl | rfl <;> rfl) hbase (by
    calc (segs.length + 1) * by_ ≤ 1001 * 200 := Nat.mul_le_mul (by omega) hb2
      _ ≤ 140737488355328 := by decide)
  exact ⟨v', w', h3, SRow.snoc h1 h2 h5 h4 hk hm, h5, xs, h1⟩
theorem IRow.push {ty : TypeId} {segs : List SegD} {s : SegD} {kv mv : Value} (h : IRow w base v segs) (hB : Blk w g 30 (segD 0 s kv mv)) (hk : KeySl w kv s.key) (hm : MapSl w mv s.map) (hbase : base ≤ w.heap.size) (hn : segs.length ≤ 1000) :
    ∃ v' w', (Builtin.append_ #[34, 34] ty #[v, .slice (some ⟨g, 0, none⟩) 1 c]).run Tryz.prog w = .ok v' w' ∧ IRow w' base v' (segs ++ [s]) ∧ w.grownBy w' v.ownBlock ∧ ∃ xs, w.ownsRow base 30 11 v segs.length xs := by
  obtain ⟨xs, h1, h2⟩ := id h
  obtain ⟨by_, hby, hb1, hb2⟩ : ∃ by_, (Tryz.prog.info? 30).map (fun i => (i.zero, i.size, i.bytes)) = some (some (.agg #[.int .u64 0, .string ⟨#[]⟩, .string ⟨#[]⟩, .float .f64 0, .int .i64 0, .int .i64 0, .slice none 0 0, .slice none 0 0, .slice none 0 0, .bool false, .string ⟨#[]⟩]), 11, by_) ∧ 0 < by_ ∧ by_ ≤ 300 := ⟨160, by kernel_rfl, by decide, by decide⟩
  have ok := hk.one
  have om := hm.one
  obtain ⟨v', w', h3, h4, h5⟩ := push_run (t := 34) (ty := ty) (m := 1) (c := c) Tryz.underlying34 hby rfl (by decide) hb1 h1 hB rfl (by
    intro u hu
    simp only [segD, List.mem_cons, List.not_mem_nil, or_false] at hu
    rcases hu with rfl | rfl | rfl | rfl | rfl | rfl | rfl | rfl | rfl | rfl | rfl <;> first | rfl | exact ok | exact om) hbase (by
    calc (segs.length + 1) * by_ ≤ 1001 * 300 := Nat.mul_le_mul (by omega) hb2
      _ ≤ 140737488355328 := by decide)
  exact ⟨v', w', h3, IRow.snoc h1 h2 h5 h4 hk hm, h5, xs, h1⟩
end
end Go.Proofs.YtlphcidpaidclaaGreatDoor
namespace Go.Proofs.YtlphcidpaidclaaGreatDoor
open Go.RowKit
set_option maxRecDepth 100000

theorem app_sz (a b : ByteArray) (n m k : Nat) (ha : a.size ≤ n) (hb : b.size ≤ m) (h : n + m ≤ k) : (a ++ b).size ≤ k := by rw [ByteArray.size_append]; omega
set_option maxHeartbeats 1600000 in
theorem keyOf_any (n : Int) (h0 : 0 ≤ n) (h1 : n ≤ 4294967295) (w : World) :
    Calls Tryz.prog 11 #[.int .u32 n] w fun e w' => ∃ kp k, e = .returned (pto kp) ∧ SKey w' kp k ∧ w.grownBy w' none ∧ (n % 4 < 3 → kp ≠ none) := by
  have HU := Lib.hid fun (m : Int) h0 h1 w => uriOf_any m h0 h1 w
  have HD := Lib.hid fun (m : Int) w h0 h1 => decimal_any m w h0 h1
  have hm : n % 4 = 0 ∨ n % 4 = 1 ∨ n % 4 = 2 ∨ n % 4 = 3 := by omega
  rcases hm with hm | hm | hm | hm
  · go_enter Tryz.func11, Tryz.ntmps11
    go_wp2
    go_ret
    exact ⟨some w.heap.size, some ⟨⟨#[78, 79, 78, 69]⟩, ⟨#[]⟩, ⟨#[]⟩, ⟨#[]⟩, ⟨#[]⟩⟩, rfl, .mk (Blk.new rfl) ⟨by decide, by decide, by decide, by decide, by decide⟩, grown_alloc _ _, fun _ h => by cases h⟩
  · go_enter Tryz.func11, Tryz.ntmps11
    go_wp2_with fail
    refine (HU.out _ (by omega) (by omega) _).mono ?_
    rintro e w' ⟨⟨s, rfl, hs⟩, rfl⟩
    go_wp2_with fail
    go_ret
    exact ⟨some w.heap.size, some ⟨⟨#[65, 69, 83, 45, 49, 50, 56]⟩, s, ⟨#[]⟩, ⟨#[]⟩, ⟨#[]⟩⟩, rfl, .mk (Blk.new rfl) ⟨Nat.le_of_ble_eq_true rfl, Nat.le_trans hs (by decide), Nat.le_of_ble_eq_true rfl, Nat.le_of_ble_eq_true rfl, Nat.le_of_ble_eq_true rfl⟩, grown_alloc _ _, fun _ h => by cases h⟩
  · have hd9 : ∀ x : Int, 0 ≤ x → x < 10 ^ 10 → (bs (Lib.decDigits x.toNat)).size ≤ 10 := fun x hx hy => dd_size (by omega) (by omega)
    have HD9 := Lib.hid hd9
    clear hd9
    go_enter Tryz.func11, Tryz.ntmps11
    go_wp2_with fail
    refine (HU.out _ (by omega) (by omega) _).mono ?_
    rintro e w' ⟨⟨s, rfl, hs⟩, rfl⟩
    go_wp2_with fail
    refine (HD.out _ _ (by omega) (by omega)).mono ?_
    rintro e w' ⟨rfl, rfl⟩
    have z1 := HD9.out (n / 32) (by omega) (by omega)
    generalize bs (Lib.decDigits (n / 32).toNat) = U1 at *
    go_wp2_with fail
    refine (HD.out _ _ (by omega) (by omega)).mono ?_
    rintro e w' ⟨rfl, rfl⟩
    have z2 := HD9.out (n / 128 % 9) (by omega) (by omega)
    generalize bs (Lib.decDigits (n / 128 % 9).toNat) = U2 at *
    go_wp2_with fail
    refine (HD.out _ _ (by omega) (by omega)).mono ?_
    rintro e w' ⟨rfl, rfl⟩
    have z3 := HD9.out (n / 512 % 9) (by omega) (by omega)
    generalize bs (Lib.decDigits (n / 512 % 9).toNat) = U3 at *
    go_wp2_with fail
    go_ret
    exact ⟨some w.heap.size, some ⟨⟨#[83, 65, 77, 80, 76, 69, 45, 65, 69, 83]⟩, s, ⟨#[48, 120]⟩ ++ U1, ⟨#[99, 111, 109, 46, 102]⟩ ++ U2, ⟨#[49, 47]⟩ ++ U3⟩, rfl,
      .mk (Blk.new rfl) ⟨Nat.le_of_ble_eq_true rfl, Nat.le_trans hs (by decide), app_sz _ _ 2 10 _ (by decide) z1 (by decide), app_sz _ _ 5 10 _ (by decide) z2 (by decide), app_sz _ _ 2 10 _ (by decide) z3 (by decide)⟩, grown_alloc _ _, fun _ h => by cases h⟩
  · go_enter Tryz.func11, Tryz.ntmps11
    go_wp2
    go_ret
    exact ⟨none, none, rfl, .nil, grown_refl _ _, fun h => by omega⟩
theorem mapOf_any (n : Int) (h0 : 0 ≤ n) (h1 : n ≤ 4294967295) (w : World) :
    Calls Tryz.prog 12 #[.int .u32 n] w fun e w' => ∃ mp m, e = .returned (pto mp) ∧ SMap w' mp m ∧ w.grownBy w' none ∧ (n % 3 < 2 → mp ≠ none) := by
  have HU := Lib.hid fun (m : Int) h0 h1 w => uriOf_any m h0 h1 w
  have hm : n % 3 = 0 ∨ n % 3 = 1 ∨ n % 3 = 2 := by omega
  rcases hm with hm | hm | hm
  · go_enter Tryz.func12, Tryz.ntmps12
    go_wp2_with fail
    refine (HU.out _ (by omega) (by omega) _).mono ?_
    rintro e w' ⟨⟨s, rfl, hs⟩, rfl⟩
    go_wp2_with fail
    go_ret
    exact ⟨some w.heap.size, some ⟨s, 0, 0⟩, rfl, .mk (Blk.new rfl) ⟨Nat.le_trans hs (by decide), Nat.le_of_ble_eq_true rfl, Nat.le_of_ble_eq_true rfl⟩, grown_alloc _ _, fun _ h => by cases h⟩
  · obtain ⟨l, hl⟩ : ∃ l : Nat, (l : Int) = 1 + n / 8 := ⟨(1 + n / 8).toNat, by omega⟩
    obtain ⟨o, ho⟩ : ∃ l : Nat, (l : Int) = n / 128 := ⟨(n / 128).toNat, by omega⟩
    have HL := Lib.hid hl
    have HO := Lib.hid ho
    clear hl ho
    go_enter Tryz.func12, Tryz.ntmps12
    go_wp2_with fail
    refine (HU.out _ (by omega) (by omega) _).mono ?_
    rintro e w' ⟨⟨s, rfl, hs⟩, rfl⟩
    go_wp2_with fail
    rw [← HL.out, ← HO.out]
    go_ret
    have b1 := HL.out
    have b2 := HO.out
    exact ⟨some w.heap.size, some ⟨s, l, o⟩, rfl, .mk (Blk.new rfl) ⟨Nat.le_trans hs (by decide), by show l < _; omega, by show o < _; omega⟩, grown_alloc _ _, fun _ h => by cases h⟩
  · go_enter Tryz.func12, Tryz.ntmps12
    go_wp2
    go_ret
    exact ⟨none, none, rfl, .nil, grown_refl _ _, fun h => by omega⟩
end Go.Proofs.YtlphcidpaidclaaGreatDoor
namespace Go.Proofs.YtlphcidpaidclaaGreatDoor
open Go.RowKit
set_option maxRecDepth 100000

theorem bs_cat (a b : List UInt8) : bs (a ++ b) = bs a ++ bs b := by
  apply ByteArray.ext
  rw [ByteArray.data_append]
  simp
theorem u_shr (n k : Nat) (hn : n < 4294967296) : ∃ r : Nat, r < 4294967296 ∧ ∀ (x y : Operand) (w : World), (do eqGuard .shr 39 x y (.int .u32 n) (.int .u64 k); binOp .shr 39 (.int .u32 n) (.int .u64 k) : Sem Value).run Tryz.prog w = .ok (.int .u32 r) w := by
  refine ⟨n / 2 ^ min k 32, Nat.lt_of_le_of_lt (Nat.div_le_self _ _) hn, fun x y w => ?_⟩
  simp [go_sem]
theorem u_rem (n k : Nat) (hk : 0 < k) (hk2 : k < 4294967296) : ∃ r : Nat, r < k ∧ ∀ (x y : Operand) (w : World), (do eqGuard .rem 39 x y (.int .u32 n) (.int .u32 k); binOp .rem 39 (.int .u32 n) (.int .u32 k) : Sem Value).run Tryz.prog w = .ok (.int .u32 r) w := by
  refine ⟨n % k, Nat.mod_lt _ hk, fun x y w => ?_⟩
  simp [go_sem]
  rw [if_neg (by omega), Int.tmod_eq_emod_of_nonneg (by omega)]
theorem u_and (n k : Nat) : ∃ r : Int, ∀ (x y : Operand) (w : World), (do eqGuard .and 39 x y (.int .u32 n) (.int .u32 k); binOp .and 39 (.int .u32 n) (.int .u32 k) : Sem Value).run Tryz.prog w = .ok (.int .u32 r) w := by
  refine ⟨bits .and .u32 n k, fun x y w => ?_⟩
  simp [go_sem]
theorem u_add (n k : Nat) (h : n + k < 4294967296) : ∃ r : Nat, r = n + k ∧ ∀ (x y : Operand) (w : World), (do eqGuard .add 39 x y (.int .u32 n) (.int .u32 k); binOp .add 39 (.int .u32 n) (.int .u32 k) : Sem Value).run Tryz.prog w = .ok (.int .u32 r) w := by
  refine ⟨n + k, rfl, fun x y w => ?_⟩
  simp [go_sem]
  rw [IntKind.wrap_u32]; omega
theorem u_eql (n : Int) (k : Nat) : ∃ q : Bool, ∀ (x y : Operand) (w : World), (do eqGuard .eql 39 x y (.int .u32 n) (.int .u32 k); binOp .eql 39 (.int .u32 n) (.int .u32 k) : Sem Value).run Tryz.prog w = .ok (.bool q) w := by
  refine ⟨n == k, fun x y w => ?_⟩
  simp [go_sem]
theorem cv_39_3 (n : Nat) (hn : n < 4294967296) (w : World) : (convert 39 3 (.int .u32 n)).run Tryz.prog w = .ok (.int .i64 n) w := by
  simp [go_sem]
  rw [IntKind.wrap_i64]; omega
theorem cv_39_25 (n : Nat) (hn : n < 4294967296) (w : World) : (convert 39 25 (.int .u32 n)).run Tryz.prog w = .ok (.int .u64 n) w := by
  simp [go_sem]
  rw [IntKind.wrap_u64]; omega
theorem cv_39_2 (n : Nat) (hn : n < 4294967296) (w : World) : (convert 39 2 (.int .u32 n)).run Tryz.prog w = .ok (.int .i64 n) w := by
  simp [go_sem]
  rw [IntKind.wrap_i64]; omega
theorem cv_3_25 (n : Nat) (hn : n < 9223372036854775808) (w : World) : (convert 3 25 (.int .i64 n)).run Tryz.prog w = .ok (.int .u64 n) w := by
  simp [go_sem]
  rw [IntKind.wrap_u64]; omega
theorem cv_2_25 (n : Nat) (hn : n < 9223372036854775808) (w : World) : (convert 2 25 (.int .i64 n)).run Tryz.prog w = .ok (.int .u64 n) w := by
  simp [go_sem]
  rw [IntKind.wrap_u64]; omega
theorem cv_5_3 (n : Nat) (hn : n < 256) (w : World) : (convert 5 3 (.int .u8 n)).run Tryz.prog w = .ok (.int .i64 n) w := by
  simp [go_sem]
  rw [IntKind.wrap_i64]; omega
section
variable {x y : Operand}
theorem bo_addi3 (m n : Nat) (w : World) (h1 : m + n < 9223372036854775808) : (do eqGuard .add 3 x y (.int .i64 m) (.int .i64 n); binOp .add 3 (.int .i64 m) (.int .i64 n) : Sem Value).run Tryz.prog w = .ok (.int .i64 (m + n : Nat)) w := by
  simp [go_sem]
  rw [IntKind.wrap_i64]; omega
theorem bo_addi2 (m n : Nat) (w : World) (h1 : m + n < 9223372036854775808) : (do eqGuard .add 2 x y (.int .i64 m) (.int .i64 n); binOp .add 2 (.int .i64 m) (.int .i64 n) : Sem Value).run Tryz.prog w = .ok (.int .i64 (m + n : Nat)) w := by
  simp [go_sem]
  rw [IntKind.wrap_i64]; omega
/-- two texts one behind the other -/
theorem bo_adds (a b : List UInt8) (w : World) (h : a.length + b.length ≤ 4294967295) : (do eqGuard .add 9 x y (.string (bs a)) (.string (bs b)); binOp .add 9 (.string (bs a)) (.string (bs b)) : Sem Value).run Tryz.prog w = .ok (.string (bs (a ++ b))) w := by
  rw [bs_cat]
  have ha : (bs a).size = a.length := rfl
  have hb : (bs b).size = b.length := rfl
  generalize bs a = A at *
  generalize bs b = B at *
  simp [go_sem]
  omega
theorem bo_nilk (kp : Option Nat) (w : World) : (do eqGuard .neq 40 x y (pto kp) (.pointer none); binOp .neq 40 (pto kp) (.pointer none) : Sem Value).run Tryz.prog w = .ok (.bool kp.isSome) w := by
  cases kp <;> kernel_rfl
theorem bo_nilm (kp : Option Nat) (w : World) : (do eqGuard .neq 41 x y (pto kp) (.pointer none); binOp .neq 41 (pto kp) (.pointer none) : Sem Value).run Tryz.prog w = .ok (.bool kp.isSome) w := by
  cases kp <;> kernel_rfl
end
end Go.Proofs.YtlphcidpaidclaaGreatDoor
